import PyProof.Rows.All
import Wide.All
import OpenK.AllK
import Wide.FinOn
import PyProof.SeqRoads2
import KE.KxDecode
import PySem.Challenge.RW_at6009_01
open PySem PySem.W PyProof.Rows
set_option Elab.async false
namespace Mine
set_option maxRecDepth 100000 in
set_option maxHeartbeats 8000000 in
open_top hd for PySem.Challenge.rw_at6009_01
end Mine

namespace Mine
open PySem.Calls PyProof.V PySem.Spec Builtin
set_option maxRecDepth 100000

abbrev Keeps (h h' : Heap) : Prop := ∀ a o, h.get? a = some o → h'.get? a = some o

def hasB (b sub : Array UInt8) : Bool := (Bytes.find? b sub 0 b.size).isSome

theorem noIdx : typeLookup (.type "bytes") "__index__" = pure none := by rw [typeLookup_type, builtinLookup_eq_fast]; kernel_rfl

theorem typeIs_b (s : Shared) (b : Array UInt8) (t : Tok) : s.TypeIs (.bytes b t) "bytes" := rfl

theorem shown_cut {M : Model} {A : Around} {E : Value → Shared → Prop} {s : Shared} {b : Array UInt8} {t : Tok} {n : Nat} {Q : String → Shared → Prop} (h : Q (shownName "bytes") s) :
    wpAny M A (typeNameOfCut n (.bytes b t)) Q E s := by
  unfold typeNameOfCut shownTypeOf
  refine wpAny_bind (wpAny_bind (wpAny_typeOf (typeIs_b s b t) ?_))
  exact wpAny_pure (wpAny_pure h)

theorem index_raises {prog : Program} {w : World} {A : Around} {E : Value → Shared → Prop} {s : Shared} {b : Array UInt8} {t : Tok} {Q : Int → Shared → Prop} (hh : A.handled = none)
    (h : ∀ e h' k, Keeps s.heap h' → E e { s with heap := h', toks := k }) : wpAny (model prog w) A (asIndex (.bytes b t)) Q E s := by
  unfold asIndex
  refine wpAny_bind (wpAny_of_eq (a := none) rfl ?_)
  show wpAny _ _ (callSpecial? (.bytes b t) "__index__" >>= _) _ _ s
  refine wpAny_bind ?_
  unfold callSpecial?
  refine wpAny_bind (wpAny_specialOf (typeIs_b s b t) noIdx (wpAny_pure ?_))
  show wpAny _ _ (typeNameOfCut 200 (.bytes b t) >>= _) _ _ s
  refine wpAny_bind (shown_cut ?_)
  exact wpAny_raiseTypeError hh (fun h' tk e hx => h _ _ _ hx.keeps) (by decide +kernel)

theorem meets_contains (b sub : Array UInt8) (t u : Tok) :
    Meets («bytes.__contains__» ⟨[.bytes b t, .bytes sub u], []⟩) (fun A R s => A.handled = none ∧ ∀ h' k, Keeps s.heap h' → R (.ok (.ret (.bool (hasB b sub)))) { s with heap := h', toks := k }) := by
  refine .of_wp fun prog w A R s hS => ?_
  obtain ⟨hh, h⟩ := hS
  show wpAny _ _ (Bytes.containsIn _ (.bytes b t) (.bytes sub u) >>= fun r => _) _ _ s
  refine wpAny_bind ?_
  unfold Bytes.containsIn
  refine wpAny_bind (wpAny_attempt (index_raises hh fun e h' k hk => ?_))
  show wpAny _ _ (Bytes.buffer? _ (.bytes b t) >>= fun r => _) _ _ _
  refine wpAny_bind (wpAny_of_eq KBy.buffer_eq ?_)
  show wpAny _ _ (Bytes.buffer? _ (.bytes sub u) >>= fun r => _) _ _ _
  refine wpAny_bind (wpAny_of_eq KBy.buffer_eq ?_)
  refine wpAny_bind (wpAny_rule ?_)
  exact wpAny_pure (wpAny_pure ⟨_, rfl, h _ _ hk⟩)

section
variable {prog : Program} {w : World} {A : Around} {E : Value → Shared → Prop} {s : Shared} {h₀ : Heap} {L : Addr} {m : PySem.Str → Option Value} {news : List (Addr × Obj)} {b sub : Array UInt8} {t u : Tok} {Q : Value → Shared → Prop}
theorem in_K (F : Fr h₀ L s.heap m) (N : News h₀ L s.heap news) (hh : A.handled = none)
    (h : ∀ h' k, Fr h₀ L h' m → News h₀ L h' news → Q (.bool (hasB b sub)) { s with heap := h', toks := k }) :
    wpAny (model prog w) A (compareOp .In (.bytes sub u) (.bytes b t)) Q E s :=
  SeqRoads2.in_meets (typeIs_b s b t) FB.slot_bytes_contains FB.entry_bytes_contains (FB.args_bytes_contains_2 _ _) (meets_contains b sub t u)
    ⟨hh, fun h' k hk => ⟨_, rfl, h h' k (F.keptAll hk) (N.grown hk)⟩⟩
theorem notIn_K (F : Fr h₀ L s.heap m) (N : News h₀ L s.heap news) (hh : A.handled = none)
    (h : ∀ h' k, Fr h₀ L h' m → News h₀ L h' news → Q (.bool (!hasB b sub)) { s with heap := h', toks := k }) :
    wpAny (model prog w) A (compareOp .NotIn (.bytes sub u) (.bytes b t)) Q E s :=
  SeqRoads2.notIn_meets (typeIs_b s b t) FB.slot_bytes_contains FB.entry_bytes_contains (FB.args_bytes_contains_2 _ _) (meets_contains b sub t u)
    ⟨hh, fun h' k hk => ⟨_, rfl, h h' k (F.keptAll hk) (N.grown hk)⟩⟩
end
end Mine

namespace Mine
open PySem.Calls PyProof.V PySem.Spec Builtin
set_option maxRecDepth 100000

/-! ## slots -/
theorem slot_join : Slot "bytes" "join" "bytes.join" :=
  .of (owner := "bytes") (n := "join") (by rw [typeLookup_type, builtinLookup_eq_fast]; kernel_rfl) (by decide +kernel) (by decide +kernel) (by decide +kernel)
    (by first | exact .inl (by decide +kernel) | exact .inr (by decide +kernel)) (by rw [isSubtype_type]; kernel_rfl)
theorem type_join : typeOf (.builtin "bytes.join") = pure (.type "method_descriptor") := by show builtinType _ = _; rw [builtinType_eq_fast]; kernel_rfl
theorem entry_join : entryFor table "bytes.join" = some Builtin.«bytes.join» := entryFor_of_tree (by kernel_rfl)
theorem args_join (a b : Value) : argsOk "bytes.join" ⟨[a, b], []⟩ := by
  unfold argsOk; rw [signature?_of (id := "bytes.join") (n := ['n', 'i', 'o', 'j']) (o := ['s', 'e', 't', 'y', 'b']) (by kernel_rfl) FB.owner_bytes]; kernel_rfl
theorem slot_replace : Slot "bytes" "replace" "bytes.replace" :=
  .of (owner := "bytes") (n := "replace") (by rw [typeLookup_type, builtinLookup_eq_fast]; kernel_rfl) (by decide +kernel) (by decide +kernel) (by decide +kernel)
    (by first | exact .inl (by decide +kernel) | exact .inr (by decide +kernel)) (by rw [isSubtype_type]; kernel_rfl)
theorem type_replace : typeOf (.builtin "bytes.replace") = pure (.type "method_descriptor") := by show builtinType _ = _; rw [builtinType_eq_fast]; kernel_rfl
theorem entry_replace : entryFor table "bytes.replace" = some Builtin.«bytes.replace» := entryFor_of_tree (by kernel_rfl)
theorem args_replace (a b c : Value) : argsOk "bytes.replace" ⟨[a, b, c], []⟩ := by
  unfold argsOk; rw [signature?_of (id := "bytes.replace") (n := ['e', 'c', 'a', 'l', 'p', 'e', 'r']) (o := ['s', 'e', 't', 'y', 'b']) (by kernel_rfl) FB.owner_bytes]; kernel_rfl
theorem slot_split : Slot "bytes" "split" "bytes.split" :=
  .of (owner := "bytes") (n := "split") (by rw [typeLookup_type, builtinLookup_eq_fast]; kernel_rfl) (by decide +kernel) (by decide +kernel) (by decide +kernel)
    (by first | exact .inl (by decide +kernel) | exact .inr (by decide +kernel)) (by rw [isSubtype_type]; kernel_rfl)
theorem type_split : typeOf (.builtin "bytes.split") = pure (.type "method_descriptor") := by show builtinType _ = _; rw [builtinType_eq_fast]; kernel_rfl
theorem entry_split : entryFor table "bytes.split" = some Builtin.«bytes.split» := entryFor_of_tree (by kernel_rfl)
theorem args_split (a b : Value) : argsOk "bytes.split" ⟨[a, b], []⟩ := by
  unfold argsOk; rw [signature?_of (id := "bytes.split") (n := ['t', 'i', 'l', 'p', 's']) (o := ['s', 'e', 't', 'y', 'b']) (by kernel_rfl) FB.owner_bytes]; kernel_rfl
theorem no_tuple : isSubtype (.type "bytes") (.type "tuple") = pure false := by rw [isSubtype_type]; kernel_rfl

/-! ## bytes in a list -/
inductive BA : List Value → List (Array UInt8) → Prop
  | nil : BA [] []
  | cons {p : Array UInt8} {t : Tok} {vs : List Value} {ps : List (Array UInt8)} : BA vs ps → BA (.bytes p t :: vs) (p :: ps)
theorem BA.length : ∀ {vs ps}, BA vs ps → vs.length = ps.length
  | _, _, .nil => rfl
  | _, _, .cons h => by simp [h.length]
theorem BA.get {vs : List Value} {ps : List (Array UInt8)} (h : BA vs ps) : ∀ {i : Nat} {v : Value}, vs[i]? = some v → ∃ p t, ps[i]? = some p ∧ v = Value.bytes p t := by
  induction h with
  | nil => intro i v e; simp at e
  | @cons p t vs ps h ih =>
    intro i v e
    cases i with
    | zero => simp at e; exact ⟨p, t, rfl, e.symm⟩
    | succ i => simp at e; simpa using ih e
theorem BA.append : ∀ {vs ps vs' ps'}, BA vs ps → BA vs' ps' → BA (vs ++ vs') (ps ++ ps')
  | _, _, _, _, .nil, h => h
  | _, _, _, _, .cons g, h => .cons (g.append h)
theorem BA.one (p : Array UInt8) (t : Tok) : BA [.bytes p t] [p] := .cons .nil
theorem BA.take : ∀ {vs ps}, BA vs ps → ∀ n, BA (vs.take n) (ps.take n)
  | _, _, .nil, n => by simp; exact .nil
  | _, _, .cons h, 0 => by simp; exact .nil
  | _, _, .cons h, n + 1 => .cons (h.take n)
theorem BA.drop : ∀ {vs ps}, BA vs ps → ∀ n, BA (vs.drop n) (ps.drop n)
  | _, _, .nil, n => by simp; exact .nil
  | _, _, .cons h, 0 => .cons h
  | _, _, .cons h, n + 1 => h.drop n

theorem mapM_bytes {M : Model} {A : Around} {E : Value → Shared → Prop} : ∀ (ps : List (Array UInt8)) (s : Shared) (Q : List Value → Shared → Prop), (∀ p ∈ ps, p.size ≤ sizeLine) →
    (∀ vs k, BA vs ps → Q vs { s with toks := k }) → wpAny M A (ps.mapM (Bytes.Kind.new .bytes)) Q E s
  | [], s, Q, _, h => by rw [List.mapM_nil]; exact wpAny_pure (h [] s.toks .nil)
  | p :: r, s, Q, hz, h => by
    rw [List.mapM_cons]
    refine wpAny_bind ?_
    show wpAny M A (mkBytes p) _ E s
    refine wpAny_mkBytes (wpAny_bind (mapM_bytes r _ _ (fun q hq => hz q (List.mem_cons_of_mem _ hq)) fun vs k hv => wpAny_pure (h _ _ (.cons hv)))) (hz p List.mem_cons_self)

/-! ## endswith -/
def endsB (b sub : Array UInt8) : Bool := if ((Bytes.window b.size none none).2 - (Bytes.window b.size none none).1) < sub.size then false else b.extract ((Bytes.window b.size none none).2.toNat - sub.size) (Bytes.window b.size none none).2.toNat == sub

theorem meets_endswith (b sub : Array UInt8) (t u : Tok) :
    Meets («bytes.endswith» ⟨[.bytes b t, .bytes sub u], []⟩) (fun _ R s => R (.ok (.ret (.bool (endsB b sub)))) s) := by
  refine .of_wp fun prog w A R s h => ?_
  show wpAny _ _ (Bytes.payload (.bytes b t) >>= fun r => _) _ _ s
  refine wpAny_bind (wpAny_of_eq (a := b) rfl ?_)
  show wpAny _ _ (isInstance (.bytes sub u) (.type "tuple") >>= fun r => _) _ _ s
  refine wpAny_bind (wpAny_isInstance (typeIs_b s sub u) no_tuple ?_)
  show wpAny _ _ (Bytes.buffer? _ (.bytes sub u) >>= fun r => _) _ _ s
  refine wpAny_bind (wpAny_of_eq KBy.buffer_eq ?_)
  exact wpAny_pure ⟨_, rfl, h⟩

/-! ## replace -/
def repB (b old new : Array UInt8) : Array UInt8 := Bytes.joined new (Bytes.between b old.size (Bytes.occurrences b old 0 b.size))
theorem between_nil (b : Array UInt8) (n : Nat) : Bytes.between b n [] = [b] := by
  unfold Bytes.between
  simp
theorem joined_one (sep b : Array UInt8) : Bytes.joined sep [b] = b := by
  unfold Bytes.joined
  simp

theorem meets_replace (b old new : Array UInt8) (t u v : Tok) (ho : old.isEmpty = false) (h1 : b.size + (Bytes.occurrences b old 0 b.size).length * new.size ≤ sizeLine) (h2 : (repB b old new).size ≤ sizeLine) :
    Meets («bytes.replace» ⟨[.bytes b t, .bytes old u, .bytes new v], []⟩) (fun _ R s => ∀ t' k, R (.ok (.ret (.bytes (repB b old new) t'))) { s with toks := k }) := by
  refine .of_wp fun prog w A R s h => ?_
  show wpAny _ _ (Bytes.bytesLike _ (.bytes old u) >>= fun r => _) _ _ s
  refine wpAny_bind (wpAny_of_eq KBd.like_eq ?_)
  show wpAny _ _ (Bytes.bytesLike _ (.bytes new v) >>= fun r => _) _ _ s
  refine wpAny_bind (wpAny_of_eq KBd.like_eq ?_)
  show wpAny _ _ (Bytes.bytesLike _ (.bytes old u) >>= fun r => _) _ _ s
  refine wpAny_bind (wpAny_of_eq KBd.like_eq ?_)
  show wpAny _ _ (Bytes.bytesLike _ (.bytes new v) >>= fun r => _) _ _ s
  refine wpAny_bind (wpAny_of_eq KBd.like_eq ?_)
  show wpAny _ _ (Bytes.payload (.bytes b t) >>= fun r => _) _ _ s
  refine wpAny_bind (wpAny_of_eq (a := b) rfl ?_)
  simp only [ho, Bool.false_eq_true, if_false, Bool.false_and, Bool.or_false]
  show wpAny _ _ (if (Bytes.occurrences b old 0 b.size).isEmpty = true then _ else _) _ _ s
  by_cases he : (Bytes.occurrences b old 0 b.size).isEmpty = true
  · rw [if_pos he]
    refine wpAny_bind (wpAny_rule ?_)
    refine wpAny_bind ?_
    show wpAny _ _ (typeOf (.bytes b t) >>= fun r => _) _ _ s
    refine wpAny_bind (wpAny_typeOf (typeIs_b s b t) ?_)
    refine wpAny_pure (wpAny_pure ⟨_, rfl, ?_⟩)
    have e : repB b old new = b := by unfold repB; rw [List.isEmpty_iff.mp he, between_nil, joined_one]
    have h' := h t s.toks
    rw [e] at h'
    exact h'
  · rw [if_neg he]
    have hl : Bytes.tooLong (b.size + (Bytes.occurrences b old 0 b.size).length * new.size) = false := decide_eq_false (by omega)
    show wpAny _ _ (if Bytes.tooLong (b.size + (Bytes.occurrences b old 0 b.size).length * new.size) = true then _ else _) _ _ s
    rw [if_neg (by rw [hl]; exact Bool.false_ne_true)]
    refine wpAny_bind ?_
    show wpAny _ _ (mkBytes (repB b old new)) _ _ s
    exact wpAny_mkBytes (wpAny_pure ⟨_, rfl, h _ _⟩) h2

/-! ## split -/
def rowsB (b sep : Array UInt8) : List (Array UInt8) := Bytes.between b sep.size ((Bytes.occurrences b sep 0 b.size).take (b.size + 1))

theorem bind_split (v : Value) : Bytes.bindOptional "bytes.split" "split" ["sep", "maxsplit"] [v] [] = pure [some v, none] := by kernel_rfl

theorem meets_split (b sep : Array UInt8) (t u : Tok) (ho : sep.isEmpty = false) (hz : ∀ p ∈ rowsB b sep, p.size ≤ sizeLine) (hn : (rowsB b sep).length ≤ sizeLine) :
    Meets («bytes.split» ⟨[.bytes b t, .bytes sep u], []⟩) (fun _ R s => ∀ vs k, BA vs (rowsB b sep) → vs.length ≤ sizeLine → R (.ok (.ret (.ref s.heap.objs.size))) { s with heap := s.heap.push (listOf vs.toArray 0), toks := k }) := by
  refine .of_wp fun prog w A R s h => ?_
  show wpAny _ _ (Bytes.bindOptional _ "split" ["sep", "maxsplit"] [.bytes sep u] [] >>= fun r => _) _ _ s
  refine wpAny_bind (wpAny_of_eq (bind_split _) ?_)
  show wpAny _ _ (Bytes.payload (.bytes b t) >>= fun r => _) _ _ s
  refine wpAny_bind (wpAny_of_eq (a := b) rfl ?_)
  show wpAny _ _ (Bytes.bytesLike _ (.bytes sep u) >>= fun r => _) _ _ s
  refine wpAny_bind (wpAny_of_eq KBd.like_eq ?_)
  show wpAny _ _ (if sep.isEmpty = true then _ else _) _ _ s
  rw [if_neg (by rw [ho]; exact Bool.false_ne_true)]
  show wpAny _ _ (if ((Bytes.occurrences b sep 0 b.size).take (b.size + 1)).isEmpty = true then _ else _) _ _ s
  by_cases he : ((Bytes.occurrences b sep 0 b.size).take (b.size + 1)).isEmpty = true
  · rw [if_pos he]
    refine wpAny_bind (wpAny_rule ?_)
    refine wpAny_bind ?_
    show wpAny _ _ (typeOf (.bytes b t) >>= fun r => _) _ _ s
    refine wpAny_bind (wpAny_typeOf (typeIs_b s b t) ?_)
    refine wpAny_pure ?_
    have e : rowsB b sep = [b] := by unfold rowsB; rw [List.isEmpty_iff.mp he, between_nil]
    refine wpAny_bind (wpAny_newList (wpAny_pure ⟨_, rfl, h [.bytes b t] _ (by rw [e]; exact BA.one b t) ?_⟩) ?_)
    · show 1 ≤ sizeLine; decide
    · show 1 ≤ sizeLine; decide
  · rw [if_neg he]
    refine wpAny_bind ?_
    show wpAny _ _ ((rowsB b sep).mapM (Bytes.Kind.new .bytes)) _ _ s
    refine mapM_bytes _ _ _ hz fun vs k hv => ?_
    have hl : vs.length ≤ sizeLine := by rw [hv.length]; exact hn
    exact wpAny_bind (wpAny_newList (wpAny_pure ⟨_, rfl, h vs k hv hl⟩) hl)
end Mine

namespace Mine
open PySem.Calls PyProof.V PySem.Spec Builtin
set_option maxRecDepth 100000

theorem take_eq {id : String} {b : Array UInt8} {t : Tok} : Bytes.takeBuffer? id (.bytes b t) 0 = pure (some (b, none)) := by
  unfold Bytes.takeBuffer?
  rw [KBy.special_eq KBy.look_buffer, KBy.own_buffer]
  have e : Bytes.buffer? id (.bytes b t) (full := (0 : Int) == Bytes.fullReadOnly) = pure (some b) := by
    have : ((0 : Int) == Bytes.fullReadOnly) = false := by decide
    rw [this]
    exact KBy.buffer_eq
  rw [e]
  kernel_rfl
theorem takeQuiet_eq {id : String} {b : Array UInt8} {t : Tok} : Bytes.takeBufferQuiet? id (.bytes b t) 0 = pure (some (b, none)) := by
  unfold Bytes.takeBufferQuiet?
  rw [take_eq]
  rfl
theorem joinLetGo_any {M : Model} {A : Around} {E : Value → Shared → Prop} {s : Shared} {Q : Unit → Shared → Prop} : ∀ (tk : List (Value × Option Value)) (keep : List Value), (∀ y ∈ tk, y.2 = none) → Q () s → wpAny M A (Bytes.joinLetGo tk keep) Q E s
  | [], keep, _, h => by unfold Bytes.joinLetGo; exact wpAny_pure h
  | (x, w) :: r, keep, hn, h => by
    have e : w = none := hn (x, w) List.mem_cons_self
    subst e
    unfold Bytes.joinLetGo
    exact wpAny_bind (wpAny_letGo (joinLetGo_any r keep (fun y hy => hn y (List.mem_cons_of_mem _ hy)) h))

theorem meets_join (sep : Array UInt8) (t : Tok) (l : Addr) {vs : List Value} {ps : List (Array UInt8)} (hb : BA vs ps) (h1 : ps.foldl (· + ·.size) (sep.size * (ps.length - 1)) ≤ sizeLine) (h2 : (Bytes.joined sep ps).size ≤ sizeLine) :
    Meets («bytes.join» ⟨[.bytes sep t, .ref l], []⟩) (fun _ R s => s.heap.IsList l vs.toArray ∧ ∀ t' k, R (.ok (.ret (.bytes (Bytes.joined sep ps) t'))) { s with toks := k }) := by
  refine .of_wp fun prog w A R s hS => ?_
  obtain ⟨hl, h⟩ := hS
  show wpAny _ _ (Bytes.joinItems (.ref l) >>= fun r => _) _ _ s
  refine wpAny_bind ?_
  unfold Bytes.joinItems
  refine wpAny_bind (wpAny_typeOf hl.typeIs ?_)
  refine wpAny_pure ?_
  obtain ⟨o, ho, hc, n, hd⟩ := hl
  refine wpAny_bind (wpAny_seqItems ho hd ?_)
  show wpAny _ _ (match vs.toArray with | #[x] => _ | _ => _) _ _ s
  by_cases hone : vs.length = 1
  · obtain ⟨x, e⟩ := List.length_eq_one_iff.mp hone
    subst e
    cases hb with
    | @cons p u _ _ hb =>
    cases hb
    show wpAny _ _ (typeOf (.bytes p u) >>= fun r => _) _ _ s
    refine wpAny_bind (wpAny_typeOf (typeIs_b s p u) ?_)
    refine wpAny_bind (wpAny_rule ?_)
    refine wpAny_pure ⟨_, rfl, ?_⟩
    have h' := h u s.toks
    rw [joined_one] at h'
    exact h'
  · generalize hsz : vs.toArray.size = N
    have hsz' : vs.length = N := by simpa using hsz
    delta meets_join.match_1
    dsimp only
    rw [dif_neg (by simpa using hone)]
    refine wpAny_bind ?_
    rw [Std.Legacy.Range.forIn_eq_forIn_range']
    refine wpAny_forIn_list _ (fun rest (r : Array (Array UInt8) × List (Value × Option Value)) s' => ∃ i, rest = List.range' i (N - i) ∧ i ≤ N ∧ r.1.toList = ps.take i ∧ (∀ y ∈ r.2, y.2 = none ∧ y.1.onHeap = false) ∧ s' = s) _ ?_ ?_ _ _ ?_
    · rintro x rest ⟨parts, taken⟩ s' ⟨i, hr, hi, hp, ht, rfl⟩
      have hlt : i < N := by
        rcases Nat.lt_or_ge i N with q | q
        · exact q
        · rw [show N - i = 0 by omega] at hr; simp at hr
      rw [show N - i = (N - (i + 1)) + 1 by omega, List.range'_succ] at hr
      have hlt' : i < vs.length := by omega
      obtain ⟨rfl, rfl⟩ := List.cons.inj hr
      obtain ⟨p, u, hpi, hvi⟩ := hb.get (List.getElem?_eq_getElem hlt')
      dsimp only
      refine wpAny_bind (wpAny_seqItems ho hd ?_)
      dsimp only
      have ex : vs.toArray.getD x Value.none = .bytes p u := by
        rw [← hvi]; simp [Array.getD, hlt']
      rw [ex]
      have ea : (taken.any fun y => y.fst.onHeap) = false := by
        rw [List.any_eq_false]; intro y hy; rw [(ht y hy).2]; exact Bool.false_ne_true
      rw [ea]
      refine wpAny_ite ?_
      rw [if_neg (by decide)]
      refine wpAny_bind (wpAny_holding ?_)
      rw [takeQuiet_eq]
      refine wpAny_pure ?_
      dsimp only
      refine wpAny_bind (wpAny_seqItems ho hd ?_)
      dsimp only
      refine wpAny_ite ?_
      rw [if_neg (by simp [hsz'])]
      refine wpAny_pure ?_
      dsimp only
      refine ⟨x + 1, rfl, hlt, ?_, ?_, rfl⟩
      · rw [Array.toList_push, hp, List.take_add_one, hpi]; rfl
      · intro y hy
        rcases List.mem_append.mp hy with hy | hy
        · exact ht y hy
        · rw [List.mem_singleton.mp hy]; exact ⟨rfl, rfl⟩
    · rintro ⟨parts, taken⟩ s' ⟨i, hr, hi, hp, ht, rfl⟩
      have hi' : i = vs.length := by
        rcases Nat.lt_or_ge i N with q | q
        · rw [show N - i = (N - (i + 1)) + 1 by omega, List.range'_succ] at hr; cases hr
        · omega
      have hp' : parts.toList = ps := by rw [hp, hi', hb.length, List.take_length]
      dsimp only
      refine wpAny_bind (wpAny_of_eq (a := sep) rfl ?_)
      have ez : Array.foldl (fun x1 x2 => x1 + x2.size) (sep.size * (parts.size - 1)) parts ≤ sizeLine := by
        have e1 : parts.size = ps.length := by rw [← hp', Array.length_toList]
        rw [← Array.foldl_toList, hp', e1]; exact h1
      refine wpAny_ite ?_
      rw [if_neg (by simp only [Bytes.tooLong, decide_eq_true_eq]; omega)]
      rw [hp']
      refine wpAny_bind ?_
      show wpAny _ _ (mkBytes _) _ _ _
      refine wpAny_mkBytes ?_ h2
      refine wpAny_bind (wpAny_holding (wpAny_point ?_))
      refine wpAny_bind (joinLetGo_any _ _ (fun y hy => (ht y hy).1) ?_)
      exact wpAny_pure ⟨_, rfl, h _ _⟩
    · exact ⟨0, by simp [Std.Legacy.Range.size], Nat.zero_le _, by simp, (fun y hy => nomatch hy), rfl⟩
end Mine

namespace Mine
open PySem.Calls PyProof.V PySem.Spec Builtin
set_option maxRecDepth 100000

section
variable {M : Model} {A : Around} {E : Value → Shared → Prop} {s : Shared} {b : Array UInt8} {t : Tok} {pl : Sem Bool} {Q : Value × List Value → Shared → Prop}
theorem m_join (h : Q (.builtin "bytes.join", [.bytes b t]) s) : wpAny M A (getMethod (.bytes b t) "join" pl) Q E s := by
  with_reducible exact KBd.method_of (.bytes b t) (typeIs_b _ _ _) slot_join type_join KBd.noRef h
theorem m_replace (h : Q (.builtin "bytes.replace", [.bytes b t]) s) : wpAny M A (getMethod (.bytes b t) "replace" pl) Q E s := by
  with_reducible exact KBd.method_of (.bytes b t) (typeIs_b _ _ _) slot_replace type_replace KBd.noRef h
theorem m_split (h : Q (.builtin "bytes.split", [.bytes b t]) s) : wpAny M A (getMethod (.bytes b t) "split" pl) Q E s := by
  with_reducible exact KBd.method_of (.bytes b t) (typeIs_b _ _ _) slot_split type_split KBd.noRef h
theorem m_endswith (h : Q (.builtin "bytes.endswith", [.bytes b t]) s) : wpAny M A (getMethod (.bytes b t) "endswith" pl) Q E s := by
  with_reducible exact KBd.method_of (.bytes b t) (typeIs_b _ _ _) FB.slot_bytes_endswith FB.type_bytes_endswith KBd.noRef h
end

section
variable {prog : Program} {w : World} {A : Around} {E : Value → Shared → Prop} {s : Shared} {h₀ : Heap} {L l : Addr} {m : PySem.Str → Option Value} {news : List (Addr × Obj)} {b sep old new : Array UInt8} {t u v : Tok} {vs : List Value} {ps : List (Array UInt8)} {Q : Value → Shared → Prop}
theorem join_K (hl : s.heap.IsList l vs.toArray) (hb : BA vs ps) (h1 : ps.foldl (· + ·.size) (sep.size * (ps.length - 1)) ≤ sizeLine) (h2 : (Bytes.joined sep ps).size ≤ sizeLine)
    (h : ∀ t' k, Q (.bytes (Bytes.joined sep ps) t') { s with toks := k }) : wpAny (model prog w) A (call (.builtin "bytes.join") [.bytes sep t, .ref l]) Q E s :=
  call_meets slot_join (typeIs_b _ _ _) entry_join (args_join _ _) (meets_join sep t l hb h1 h2) ⟨hl, h⟩
theorem endswith_K (h : Q (.bool (endsB b sep)) s) : wpAny (model prog w) A (call (.builtin "bytes.endswith") [.bytes b t, .bytes sep u]) Q E s :=
  call_meets FB.slot_bytes_endswith (typeIs_b _ _ _) FB.entry_bytes_endswith (FB.args_bytes_endswith_2 _ _) (meets_endswith b sep t u) h
theorem replace_K (ho : old.isEmpty = false) (h1 : b.size + (Bytes.occurrences b old 0 b.size).length * new.size ≤ sizeLine) (h2 : (repB b old new).size ≤ sizeLine)
    (h : ∀ t' k, Q (.bytes (repB b old new) t') { s with toks := k }) : wpAny (model prog w) A (call (.builtin "bytes.replace") [.bytes b t, .bytes old u, .bytes new v]) Q E s :=
  call_meets slot_replace (typeIs_b _ _ _) entry_replace (args_replace _ _ _) (meets_replace b old new t u v ho h1 h2) h
theorem split_K (F : Fr h₀ L s.heap m) (N : News h₀ L s.heap news) (ho : sep.isEmpty = false) (hz : ∀ p ∈ rowsB b sep, p.size ≤ sizeLine) (hn : (rowsB b sep).length ≤ sizeLine)
    (h : ∀ l h' vs k, Fr h₀ L h' m → News h₀ L h' ((l, listOf vs.toArray 0) :: news) → (∀ p ∈ news, p.1 < l) → BA vs (rowsB b sep) → Q (.ref l) { s with heap := h', toks := k }) :
    wpAny (model prog w) A (call (.builtin "bytes.split") [.bytes b t, .bytes sep u]) Q E s :=
  call_meets slot_split (typeIs_b _ _ _) entry_split (args_split _ _) (meets_split b sep t u ho hz hn)
    fun vs k hv _ => h _ _ vs k (F.push _) (N.push F _) (fun p hp => Heap.lt_size (N p hp).1) hv
theorem slice_B {value slice : PySem.Expr} {lo hi : Option Int} {x y : Value} (hF : Fr h₀ L s.heap m) (hN : News h₀ L s.heap news) (hl : IsPart x lo) (hu : IsPart y hi) (hz : b.size ≤ 16777216)
    (h : ∀ h' t' k, Fr h₀ L h' m → News h₀ L h' news → Q (.bytes (KBy.picked b lo hi) t') { s with heap := h', toks := k })
    (hs : subscripted slice false (.bytes b t) (.ref s.heap.objs.size) = operate [.ref s.heap.objs.size, .bytes b t] (getItem (.bytes b t) (.ref s.heap.objs.size)) := by with_unfolding_all rfl)
    (ht : ∀ r, letTemporaryGo value (.bytes b t) r = pure () := by intro _; with_unfolding_all rfl) :
    wpAny (model prog w) A (subscriptTail value slice (.bytes b t) (.ref s.heap.objs.size)) Q E { s with heap := s.heap.push { cls := .type "slice", data := .fields #[x, y, .none] } } :=
  KBc.slice_K hF hN rfl hl hu (by rw [KBw.ints_length]; exact hz) (fun h' t' k F' N' _ => h h' t' k F' N') hs ht
end
end Mine

namespace Mine
open PySem.Calls PyProof.V PySem.Spec Builtin
set_option maxRecDepth 100000

/-! ## the plain law: the places of a run of bytes, and what lies between them -/
def addHead (h : List UInt8) : List (List UInt8) → List (List UInt8)
  | [] => [h]
  | x :: r => (h ++ x) :: r
theorem addHead_add (h g : List UInt8) (l : List (List UInt8)) (hl : l ≠ []) : addHead h (addHead g l) = addHead (h ++ g) l := by
  cases l with
  | nil => exact absurd rfl hl
  | cons x r => simp [addHead]
theorem addHead_nil (l : List (List UInt8)) (hl : l ≠ []) : addHead [] l = l := by
  cases l with
  | nil => exact absurd rfl hl
  | cons x r => simp [addHead]
theorem addHead_ne (h : List UInt8) (l : List (List UInt8)) : addHead h l ≠ [] := by cases l <;> simp [addHead]

def cutS (sub : List UInt8) : Nat → List UInt8 → List (List UInt8)
  | _, [] => [[]]
  | k + 1, _ :: r => cutS sub k r
  | 0, c :: r => if sub.isPrefixOf (c :: r) then [] :: cutS sub (sub.length - 1) r else addHead [c] (cutS sub 0 r)
theorem cutS_ne (sub : List UInt8) : ∀ (k : Nat) (l : List UInt8), cutS sub k l ≠ []
  | 0, [] => by simp [cutS]
  | _ + 1, [] => by simp [cutS]
  | k + 1, _ :: r => by rw [cutS]; exact cutS_ne sub k r
  | 0, c :: r => by
    rw [cutS]
    split
    · simp
    · exact addHead_ne _ _

def occF (b sub : Array UInt8) : Nat → Nat → Nat → List Nat
  | 0, _, _ => []
  | k + 1, i, skip => if skip = 0 ∧ (b.extract i (i + sub.size) == sub) = true then i :: occF b sub k (i + 1) (sub.size - 1) else occF b sub k (i + 1) (skip - 1)

def btw (b : Array UInt8) (w : Nat) : Nat → List Nat → List (Array UInt8)
  | last, [] => [b.extract last b.size]
  | last, p :: ps => b.extract last p :: btw b w (p + w) ps

theorem between_btw (b : Array UInt8) (w : Nat) (places : List Nat) : Bytes.between b w places = btw b w 0 places := by
  have key : ∀ (places : List Nat) (parts : Array (Array UInt8)) (last : Nat),
      ((places.foldl (fun (x : Array (Array UInt8) × Nat) p => (x.1.push (b.extract x.2 p), p + w)) (parts, last)).1.push (b.extract (places.foldl (fun (x : Array (Array UInt8) × Nat) p => (x.1.push (b.extract x.2 p), p + w)) (parts, last)).2 b.size)).toList = parts.toList ++ btw b w last places := by
    intro places
    induction places with
    | nil => intro parts last; simp [btw]
    | cons p ps ih =>
      intro parts last
      rw [List.foldl_cons, ih]
      simp [btw]
  have := key places #[] 0
  simpa [Bytes.between] using this

theorem occ_occF (b sub : Array UInt8) (hw : 0 < sub.size) : Bytes.occurrences b sub 0 b.size = occF b sub (b.size + 1 - sub.size) 0 0 := by
  have key : ∀ (k i next : Nat) (acc : List Nat),
      ((List.range' i k).foldl (fun (acc : List Nat × Nat) i => if i ≥ acc.2 && b.extract i (i + sub.size) == sub then (i :: acc.1, i + sub.size) else acc) (acc, next)).1.reverse = acc.reverse ++ occF b sub k i (next - i) := by
    intro k
    induction k with
    | zero => intro i next acc; simp [occF]
    | succ k ih =>
      intro i next acc
      rw [List.range'_succ, List.foldl_cons]
      by_cases hc : (decide (i ≥ next) && b.extract i (i + sub.size) == sub) = true
      · rw [if_pos hc, ih]
        have hc' := hc
        rw [Bool.and_eq_true, decide_eq_true_eq] at hc'
        rw [occF, if_pos ⟨by omega, hc'.2⟩, show i + sub.size - (i + 1) = sub.size - 1 by omega]
        simp
      · rw [if_neg hc, ih]
        have hn : ¬ (next - i = 0 ∧ (b.extract i (i + sub.size) == sub) = true) := by
          intro h
          apply hc
          rw [Bool.and_eq_true, decide_eq_true_eq]
          exact ⟨by omega, h.2⟩
        rw [occF, if_neg hn, show next - (i + 1) = next - i - 1 by omega]
  have h := key (b.size + 1 - sub.size) 0 0 []
  unfold Bytes.occurrences
  simp only [Nat.zero_add, Nat.add_zero]
  rw [List.range_eq_range', show (List.map (fun x => x) (List.range' 0 (b.size + 1 - sub.size))) = List.range' 0 (b.size + 1 - sub.size) from List.map_id' _]
  simpa using h

theorem extract_toList (b : Array UInt8) (i j : Nat) : (b.extract i j).toList = (b.toList.drop i).take (j - i) := by
  rw [Array.toList_extract, List.extract_eq_take_drop]

theorem hit_iff (b sub : Array UInt8) (i : Nat) : (b.extract i (i + sub.size) == sub) = sub.toList.isPrefixOf (b.toList.drop i) := by
  rw [Bool.eq_iff_iff, beq_iff_eq, List.isPrefixOf_iff_prefix, List.prefix_iff_eq_take]
  constructor
  · intro h
    have h' := congrArg Array.toList h
    rw [extract_toList] at h'
    rw [Array.length_toList, show sub.size = i + sub.size - i by omega]
    exact h'.symm
  · intro h
    apply Array.toList_inj.mp
    rw [extract_toList, show i + sub.size - i = sub.size by omega]
    rw [Array.length_toList] at h
    exact h.symm

theorem occ_cut (b sub : Array UInt8) (hw : 0 < sub.size) : ∀ (d i skip : Nat), i + d = b.size → skip ≤ d →
    (∀ last, last ≤ i → skip = 0 → (btw b sub.size last (occF b sub (b.size + 1 - sub.size - i) i 0)).map Array.toList = addHead ((b.toList.drop last).take (i - last)) (cutS sub.toList 0 (b.toList.drop i))) ∧
    (0 < skip → (btw b sub.size (i + skip) (occF b sub (b.size + 1 - sub.size - i) i skip)).map Array.toList = cutS sub.toList skip (b.toList.drop i)) := by
  intro d
  induction d with
  | zero =>
    intro i skip hi hs
    have e0 : b.size + 1 - sub.size - i = 0 := by omega
    have ei : b.toList.drop i = [] := List.drop_eq_nil_of_le (by rw [Array.length_toList]; omega)
    refine ⟨fun last hl _ => ?_, fun h => absurd h (by omega)⟩
    rw [e0, ei, occF, btw, cutS]
    simp only [List.map_cons, List.map_nil, addHead, List.append_nil]
    rw [extract_toList, show b.size - last = i - last by omega]
  | succ d ih =>
    intro i skip hi hs
    have hlt : i < b.toList.length := by rw [Array.length_toList]; omega
    obtain ⟨c, hc⟩ : ∃ c, b.toList.drop i = c :: b.toList.drop (i + 1) := ⟨b.toList[i], List.drop_eq_getElem_cons hlt⟩
    have hstep : ∀ last, last ≤ i → (b.toList.drop last).take (i + 1 - last) = (b.toList.drop last).take (i - last) ++ [c] := by
      intro last hl
      rw [show i + 1 - last = (i - last) + 1 by omega, List.take_add_one, List.getElem?_drop, show last + (i - last) = i by omega]
      have : b.toList[i]? = some c := by
        have h1 := congrArg List.head? hc
        rw [List.head?_drop] at h1
        exact h1
      rw [this]; rfl
    constructor
    · intro last hl _
      rw [hc]
      by_cases hk : b.size + 1 - sub.size - i = 0
      · have hk' : b.size + 1 - sub.size - (i + 1) = 0 := by omega
        have hno : sub.toList.isPrefixOf (c :: b.toList.drop (i + 1)) = false := by
          rw [← hc, ← hit_iff, beq_eq_false_iff_ne]
          intro h
          have h1 := congrArg Array.size h
          rw [Array.size_extract] at h1
          omega
        have h1 := (ih (i + 1) 0 (by omega) (by omega)).1 last (by omega) rfl
        rw [hk'] at h1
        rw [hk, cutS, hno]
        simp only [Bool.false_eq_true, if_false]
        rw [addHead_add _ _ _ (cutS_ne _ _ _), ← hstep last hl, ← h1]
        rfl
      · obtain ⟨k, hk'⟩ : ∃ k, b.size + 1 - sub.size - i = k + 1 := ⟨_, (Nat.succ_pred_eq_of_ne_zero hk).symm⟩
        have hk2 : b.size + 1 - sub.size - (i + 1) = k := by omega
        rw [hk', occF]
        by_cases hit : (b.extract i (i + sub.size) == sub) = true
        · have hp : sub.toList.isPrefixOf (c :: b.toList.drop (i + 1)) = true := by rw [← hc, ← hit_iff]; exact hit
          rw [if_pos ⟨rfl, hit⟩, btw, cutS, hp]
          simp only [if_true, List.map_cons, addHead, List.append_nil]
          rw [extract_toList, Array.length_toList]
          congr 1
          by_cases h1 : sub.size = 1
          · have h2 := (ih (i + 1) 0 (by omega) (by omega)).1 (i + 1) (Nat.le_refl _) rfl
            rw [hk2] at h2
            rw [h1] at h2 ⊢
            simp only [Nat.sub_self]
            rw [h2, Nat.sub_self, List.take_zero, addHead_nil _ (cutS_ne _ _ _)]
          · have h2 := (ih (i + 1) (sub.size - 1) (by omega) (by omega)).2 (by omega)
            rw [hk2, show i + 1 + (sub.size - 1) = i + sub.size by omega] at h2
            exact h2
        · have hp : sub.toList.isPrefixOf (c :: b.toList.drop (i + 1)) = false := by rw [← hc, ← hit_iff]; exact eq_false_of_ne_true hit
          rw [if_neg (fun h => hit h.2), cutS, hp]
          simp only [Bool.false_eq_true, if_false]
          have h1 := (ih (i + 1) 0 (by omega) (by omega)).1 last (by omega) rfl
          rw [hk2] at h1
          rw [addHead_add _ _ _ (cutS_ne _ _ _), ← hstep last hl, ← h1]
    · intro hs0
      obtain ⟨sk, rfl⟩ : ∃ sk, skip = sk + 1 := ⟨skip - 1, by omega⟩
      rw [hc, cutS]
      have hrec : occF b sub (b.size + 1 - sub.size - i) i (sk + 1) = occF b sub (b.size + 1 - sub.size - (i + 1)) (i + 1) sk := by
        by_cases hk : b.size + 1 - sub.size - i = 0
        · rw [hk, show b.size + 1 - sub.size - (i + 1) = 0 by omega, occF, occF]
        · obtain ⟨k, hk'⟩ : ∃ k, b.size + 1 - sub.size - i = k + 1 := ⟨_, (Nat.succ_pred_eq_of_ne_zero hk).symm⟩
          rw [hk', show b.size + 1 - sub.size - (i + 1) = k by omega, occF, if_neg (fun h => absurd h.1 (Nat.succ_ne_zero _))]
          rfl
      rw [hrec, show i + (sk + 1) = i + 1 + sk by omega]
      by_cases h0 : sk = 0
      · subst h0
        have h2 := (ih (i + 1) 0 (by omega) (by omega)).1 (i + 1) (Nat.le_refl _) rfl
        rw [Nat.sub_self, List.take_zero, addHead_nil _ (cutS_ne _ _ _)] at h2
        exact h2
      · exact (ih (i + 1) sk (by omega) (by omega)).2 (by omega)

theorem cut_eq (b sub : Array UInt8) (hw : 0 < sub.size) : (Bytes.between b sub.size (Bytes.occurrences b sub 0 b.size)).map Array.toList = cutS sub.toList 0 b.toList := by
  rw [between_btw, occ_occF b sub hw]
  have h := (occ_cut b sub hw b.size 0 0 (by omega) (by omega)).1 0 (Nat.le_refl _) rfl
  rw [Nat.sub_zero] at h
  rw [h]
  simp only [Nat.sub_self, List.take_zero, List.drop_zero]
  exact addHead_nil _ (cutS_ne _ _ _)

theorem occF_length (b sub : Array UInt8) : ∀ (k i skip : Nat), (occF b sub k i skip).length ≤ k
  | 0, _, _ => by simp [occF]
  | k + 1, i, skip => by
    rw [occF]
    split
    · have := occF_length b sub k (i + 1) (sub.size - 1); simp; omega
    · have := occF_length b sub k (i + 1) (skip - 1); omega
theorem occ_length (b sub : Array UInt8) (hw : 0 < sub.size) : (Bytes.occurrences b sub 0 b.size).length ≤ b.size := by
  rw [occ_occF b sub hw]
  have := occF_length b sub (b.size + 1 - sub.size) 0 0
  omega

theorem rows_eq (b sub : Array UInt8) (hw : 0 < sub.size) : (rowsB b sub).map Array.toList = cutS sub.toList 0 b.toList := by
  unfold rowsB
  rw [List.take_of_length_le (by have := occ_length b sub hw; omega), cut_eq b sub hw]
end Mine

namespace Mine
open PySem.Calls PyProof.V PySem.Spec Builtin
set_option maxRecDepth 100000

def glue (sep : List UInt8) : List (List UInt8) → List UInt8
  | [] => []
  | p :: r => p ++ r.flatMap (fun q => sep ++ q)
theorem glue_cons (sep p : List UInt8) (l : List (List UInt8)) (h : l ≠ []) : glue sep (p :: l) = p ++ (sep ++ glue sep l) := by
  cases l with
  | nil => exact absurd rfl h
  | cons q r => simp [glue]
theorem glue_addHead (sep h : List UInt8) (l : List (List UInt8)) : glue sep (addHead h l) = h ++ glue sep l := by
  cases l with
  | nil => simp [glue, addHead]
  | cons q r => simp [glue, addHead]

theorem joined_toList (sep : Array UInt8) (ps : List (Array UInt8)) : (Bytes.joined sep ps).toList = glue sep.toList (ps.map Array.toList) := by
  have key : ∀ (ps : List (Array UInt8)) (k : Nat) (out : Array UInt8), 0 < k →
      ((ps.zipIdx k).foldl (fun out (x : Array UInt8 × Nat) => (if x.2 > 0 then out ++ sep else out) ++ x.1) out).toList = out.toList ++ (ps.map Array.toList).flatMap (fun q => sep.toList ++ q) := by
    intro ps
    induction ps with
    | nil => intro k out _; simp
    | cons p r ih =>
      intro k out hk
      rw [List.zipIdx_cons, List.foldl_cons, ih (k + 1) _ (by omega)]
      simp [hk]
  cases ps with
  | nil => simp [Bytes.joined, glue]
  | cons p r =>
    have := key r 1 p (by omega)
    simp only [Bytes.joined, List.zipIdx_cons, List.foldl_cons]
    simpa [glue] using this

def downL : List UInt8 → List UInt8
  | [] => []
  | c :: r => if c = 13 ∧ r.head? = some 10 then downL r else c :: downL r

theorem glue_crlf : ∀ (n : Nat) (l : List UInt8), l.length ≤ n → glue [10] (cutS [13, 10] 0 l) = downL l := by
  intro n
  induction n with
  | zero => intro l h; have : l = [] := List.length_eq_zero_iff.mp (by omega); subst this; simp [cutS, glue, downL]
  | succ n ih =>
    intro l h
    cases l with
    | nil => simp [cutS, glue, downL]
    | cons c r =>
      have hr : r.length ≤ n := by simp at h; omega
      rw [cutS]
      by_cases hp : ([13, 10] : List UInt8).isPrefixOf (c :: r) = true
      · rw [if_pos hp]
        cases r with
        | nil => simp [List.isPrefixOf] at hp
        | cons d r' =>
          have e : c = 13 ∧ d = 10 := by
            simp [List.isPrefixOf] at hp
            exact ⟨hp.1.symm, hp.2.symm⟩
          obtain ⟨rfl, rfl⟩ := e
          show glue [10] ([] :: cutS [13, 10] 0 r') = _
          rw [glue_cons _ _ _ (cutS_ne _ _ _), ih r' (by simp at hr; omega)]
          simp [downL]
      · rw [if_neg hp, glue_addHead, ih r hr]
        have hn : ¬ (c = 13 ∧ r.head? = some 10) := by
          rintro ⟨rfl, h2⟩
          apply hp
          cases r with
          | nil => simp at h2
          | cons d r' => simp at h2; subst h2; simp [List.isPrefixOf]
        rw [downL, if_neg hn]
        rfl

def chopL (l : List UInt8) : List UInt8 := if l.drop (l.length - 1) = [13] then l.take (l.length - 1) else l
def rowsDown (rows : List (List UInt8)) : List (List UInt8) := rows.dropLast.map chopL ++ rows.drop (rows.length - 1)
theorem rowsDown_one (x : List UInt8) : rowsDown [x] = [x] := by simp [rowsDown]
theorem rowsDown_two (x y : List UInt8) (r : List (List UInt8)) : rowsDown (x :: y :: r) = chopL x :: rowsDown (y :: r) := by
  simp [rowsDown]
theorem rowsDown_ne (l : List (List UInt8)) (h : l ≠ []) : rowsDown l ≠ [] := by
  cases l with
  | nil => exact absurd rfl h
  | cons x r => cases r with
    | nil => simp [rowsDown]
    | cons y r => rw [rowsDown_two]; simp
theorem cut_lf (c : UInt8) (r : List UInt8) : cutS [10] 0 (c :: r) = if c = 10 then [] :: cutS [10] 0 r else addHead [c] (cutS [10] 0 r) := by
  rw [cutS]
  by_cases h : c = 10
  · subst h; simp [List.isPrefixOf]
  · rw [if_neg h, if_neg (by simp [List.isPrefixOf]; exact fun e => h e.symm)]
theorem head_nil {r : List UInt8} {y : List UInt8} {z : List (List UInt8)} (h : cutS [10] 0 r = [] :: y :: z) : r.head? = some 10 := by
  cases r with
  | nil => simp [cutS] at h
  | cons d r =>
    rw [cut_lf] at h
    by_cases hd : d = 10
    · subst hd; rfl
    · rw [if_neg hd] at h
      cases hc : cutS [10] 0 r with
      | nil => exact absurd hc (cutS_ne _ _ _)
      | cons x t => rw [hc] at h; simp [addHead] at h
theorem chopL_cons (c : UInt8) (x : List UInt8) (h : x ≠ [] ∨ c ≠ 13) : chopL (c :: x) = c :: chopL x := by
  cases x with
  | nil => simp [chopL]; rcases h with h | h; exact absurd rfl h; exact h
  | cons d x =>
    unfold chopL
    simp only [List.length_cons, Nat.add_sub_cancel, List.drop_succ_cons, List.take_succ_cons]
    split <;> rfl

theorem glue_rows : ∀ (l : List UInt8), glue [10] (rowsDown (cutS [10] 0 l)) = downL l := by
  intro l
  induction l with
  | nil => simp [cutS, rowsDown_one, glue, downL]
  | cons c r ih =>
    rw [cut_lf]
    cases hc : cutS [10] 0 r with
    | nil => exact absurd hc (cutS_ne _ _ _)
    | cons x t =>
      rw [hc] at ih
      by_cases h10 : c = 10
      · subst h10
        rw [if_pos rfl, rowsDown_two, glue_cons _ _ _ (rowsDown_ne _ (by simp)), ih, downL, if_neg (by simp)]
        simp [chopL]
      · rw [if_neg h10]
        simp only [addHead, List.singleton_append]
        cases t with
        | nil =>
          rw [rowsDown_one] at ih ⊢
          have hn : ¬ (c = 13 ∧ r.head? = some 10) := by
            rintro ⟨_, h2⟩
            cases r with
            | nil => simp at h2
            | cons d r' =>
              simp at h2; subst h2
              rw [cut_lf, if_pos rfl] at hc
              exact absurd (List.cons.inj hc).2 (cutS_ne _ _ _)
          rw [downL, if_neg hn, ← ih]
          simp [glue]
        | cons y z =>
          rw [rowsDown_two] at ih ⊢
          rw [glue_cons _ _ _ (rowsDown_ne _ (by simp))] at ih ⊢
          by_cases hx : x = [] ∧ c = 13
          · obtain ⟨rfl, rfl⟩ := hx
            rw [downL, if_pos ⟨rfl, head_nil hc⟩, ← ih]
            simp [chopL]
          · have hx' : x ≠ [] ∨ c ≠ 13 := by
              by_cases h1 : x = []
              · exact .inr fun h2 => hx ⟨h1, h2⟩
              · exact .inl h1
            have hn : ¬ (c = 13 ∧ r.head? = some 10) := by
              rintro ⟨h1, h2⟩
              rcases hx' with h3 | h3
              · cases r with
                | nil => simp at h2
                | cons d r' =>
                  simp at h2; subst h2
                  rw [cut_lf, if_pos rfl] at hc
                  exact h3 (List.cons.inj hc).1.symm
              · exact h3 h1
            rw [downL, if_neg hn, ← ih, chopL_cons c x hx']
            rfl

/-! ## the same over arrays -/
def chopB (p : Array UInt8) : Array UInt8 := if (KBy.picked p (some (-1)) none).toList == [13] then KBy.picked p none (some (-1)) else p
def partsB (b : Array UInt8) : List (Array UInt8) := (rowsB b #[10]).dropLast.map chopB ++ (rowsB b #[10]).drop ((rowsB b #[10]).length - 1)
def downB (b : Array UInt8) : Array UInt8 := Bytes.joined #[10] (partsB b)
def upB (b : Array UInt8) : Array UInt8 := Bytes.joined #[13, 10] (partsB b)

theorem clip_m1 (n : Nat) : clipAt n (-1) = n - 1 := by unfold clipAt; simp; omega
theorem last_toList (p : Array UInt8) : (KBy.picked p (some (-1)) none).toList = p.toList.drop (p.size - 1) := by
  rw [KBc.picked_eq]
  simp only [Option.elim, clip_m1]
  exact List.take_of_length_le (by simp)
theorem init_toList (p : Array UInt8) : (KBy.picked p none (some (-1))).toList = p.toList.take (p.size - 1) := by
  rw [KBc.picked_eq]
  simp only [Option.elim, clip_m1, List.drop_zero, Nat.sub_zero]
theorem chop_toList (p : Array UInt8) : (chopB p).toList = chopL p.toList := by
  unfold chopB chopL
  rw [last_toList, Array.length_toList]
  by_cases h : p.toList.drop (p.size - 1) = [13]
  · rw [if_pos h, if_pos (by simp [h]), init_toList]
  · rw [if_neg h, if_neg (by simpa using h)]
theorem parts_toList (b : Array UInt8) : (partsB b).map Array.toList = rowsDown (cutS [10] 0 b.toList) := by
  have h : (rowsB b #[10]).map Array.toList = cutS [10] 0 b.toList := rows_eq b #[10] (by decide)
  unfold partsB rowsDown
  rw [← h, List.map_append, List.map_map, List.map_drop, List.length_map, ← List.map_dropLast, List.map_map]
  congr 1
  exact List.map_congr_left fun p _ => chop_toList p
theorem rep_down (b : Array UInt8) : repB b #[13, 10] #[10] = downB b := by
  apply Array.toList_inj.mp
  unfold repB downB
  rw [joined_toList, joined_toList, parts_toList]
  show glue [10] _ = glue [10] _
  rw [cut_eq b #[13, 10] (by decide)]
  show glue [10] (cutS [13, 10] 0 b.toList) = _
  rw [glue_crlf _ _ (Nat.le_refl _), glue_rows]

/-! ## sizes -/
def tot (l : List (List UInt8)) : Nat := (l.map List.length).sum
theorem tot_cons (x : List UInt8) (l : List (List UInt8)) : tot (x :: l) = x.length + tot l := by simp [tot]
theorem tot_addHead (h : List UInt8) (l : List (List UInt8)) : tot (addHead h l) = h.length + tot l := by
  cases l with
  | nil => simp [tot, addHead]
  | cons x r => simp [tot, addHead]; omega
theorem len_addHead (h : List UInt8) (l : List (List UInt8)) (hl : l ≠ []) : (addHead h l).length = l.length := by
  cases l with
  | nil => exact absurd rfl hl
  | cons x r => simp [addHead]
theorem cut_tot : ∀ (l : List UInt8), tot (cutS [10] 0 l) + (cutS [10] 0 l).length = l.length + 1
  | [] => by simp [cutS, tot]
  | c :: r => by
    rw [cut_lf]
    have ih := cut_tot r
    split
    · rw [tot_cons]; simp; omega
    · rw [tot_addHead, len_addHead _ _ (cutS_ne _ _ _)]; simp; omega
theorem chop_len (l : List UInt8) : (chopL l).length ≤ l.length := by
  unfold chopL; split
  · simp
  · exact Nat.le_refl _
theorem rowsDown_tot : ∀ (l : List (List UInt8)), tot (rowsDown l) ≤ tot l ∧ (rowsDown l).length = l.length
  | [] => by simp [rowsDown]
  | [x] => by rw [rowsDown_one]; exact ⟨Nat.le_refl _, rfl⟩
  | x :: y :: r => by
    rw [rowsDown_two, tot_cons, tot_cons]
    have ih := rowsDown_tot (y :: r)
    have := chop_len x
    refine ⟨by omega, ?_⟩
    simp only [List.length_cons] at ih ⊢; omega
theorem glue_len (sep : List UInt8) : ∀ (l : List (List UInt8)), (glue sep l).length = tot l + sep.length * (l.length - 1)
  | [] => by simp [glue, tot]
  | [x] => by simp [glue, tot]
  | x :: y :: r => by
    rw [glue_cons _ _ _ (by simp), tot_cons]
    have ih := glue_len sep (y :: r)
    simp only [List.length_append, ih, List.length_cons, Nat.add_sub_cancel]
    rw [Nat.mul_add, Nat.mul_one]; omega
theorem fold_tot (ps : List (Array UInt8)) (k : Nat) : ps.foldl (fun n p => n + p.size) k = k + tot (ps.map Array.toList) := by
  induction ps generalizing k with
  | nil => simp [tot]
  | cons p r ih => rw [List.foldl_cons, ih]; simp [tot]; omega

theorem rows_tot (b : Array UInt8) : tot ((rowsB b #[10]).map Array.toList) + (rowsB b #[10]).length = b.size + 1 := by
  have h : (rowsB b #[10]).map Array.toList = cutS [10] 0 b.toList := rows_eq b #[10] (by decide)
  have := cut_tot b.toList
  rw [← h, List.length_map, Array.length_toList] at this
  exact this
theorem rows_len (b : Array UInt8) : (rowsB b #[10]).length ≤ b.size + 1 := by have := rows_tot b; omega
theorem mem_tot {x : List UInt8} : ∀ {l : List (List UInt8)}, x ∈ l → x.length ≤ tot l
  | y :: r, h => by
    rw [tot_cons]
    rcases List.mem_cons.mp h with rfl | h
    · omega
    · have := mem_tot h; omega
theorem rows_ne (b : Array UInt8) : rowsB b #[10] ≠ [] := by
  intro e
  have h : (rowsB b #[10]).map Array.toList = cutS [10] 0 b.toList := rows_eq b #[10] (by decide)
  rw [e] at h
  exact cutS_ne _ _ _ h.symm
theorem rows_size (b : Array UInt8) : ∀ p ∈ rowsB b #[10], p.size ≤ b.size := by
  intro p hp
  have h1 := rows_tot b
  have h2 := mem_tot (List.mem_map_of_mem (f := Array.toList) hp)
  rw [Array.length_toList] at h2
  have h3 : 0 < (rowsB b #[10]).length := List.length_pos_iff.mpr (rows_ne b)
  omega
theorem parts_tot (b : Array UInt8) : tot ((partsB b).map Array.toList) + (partsB b).length ≤ b.size + 1 ∧ (partsB b).length = (rowsB b #[10]).length := by
  have h : (rowsB b #[10]).map Array.toList = cutS [10] 0 b.toList := rows_eq b #[10] (by decide)
  have h1 := rows_tot b
  have h2 := rowsDown_tot (cutS [10] 0 b.toList)
  rw [← parts_toList, ← h] at h2
  rw [List.length_map, List.length_map] at h2
  omega
theorem joined_size (sep : Array UInt8) (ps : List (Array UInt8)) : (Bytes.joined sep ps).size = tot (ps.map Array.toList) + sep.size * (ps.length - 1) := by
  rw [← Array.length_toList, joined_toList, glue_len, List.length_map, Array.length_toList]
theorem down_size (b : Array UInt8) : (downB b).size ≤ b.size := by
  unfold downB
  rw [joined_size]
  have := parts_tot b
  show _ + 1 * ((partsB b).length - 1) ≤ _
  have h3 : 0 < (rowsB b #[10]).length := List.length_pos_iff.mpr (rows_ne b)
  omega
theorem up_size (b : Array UInt8) : (upB b).size ≤ 2 * b.size := by
  unfold upB
  rw [joined_size]
  have := parts_tot b
  show _ + 2 * ((partsB b).length - 1) ≤ _
  have h3 : 0 < (rowsB b #[10]).length := List.length_pos_iff.mpr (rows_ne b)
  omega
end Mine

namespace Mine
open PySem.Calls PyProof.V PySem.Spec Builtin
set_option maxRecDepth 100000

theorem BA.dropLast {vs : List Value} {ps : List (Array UInt8)} (h : BA vs ps) : BA vs.dropLast ps.dropLast := by
  rw [List.dropLast_eq_take, List.dropLast_eq_take, h.length]; exact h.take _
theorem pick_init (vs : List Value) : (slicePick vs.toArray none (some (-1)) none).toList = vs.dropLast := by
  have e := kmk_pick_nat vs.toArray (lo := none) (hi := some (-1)) (a := 0) (b := vs.length - 1) (by rw [sliceBounds_plain]; simp only [Option.elim, clip_m1, List.size_toArray])
  rw [e, List.dropLast_eq_take]; simp
theorem pick_last (vs : List Value) : (slicePick vs.toArray (some (-1)) none none).toList = vs.drop (vs.length - 1) := by
  have e := kmk_pick_nat vs.toArray (lo := some (-1)) (hi := none) (a := vs.length - 1) (b := vs.length) (by rw [sliceBounds_plain]; simp only [Option.elim, clip_m1, List.size_toArray])
  rw [e]
  show (List.take (vs.length - (vs.length - 1)) (List.drop (vs.length - 1) vs)) = _
  exact List.take_of_length_le (by simp)

section
variable {prog : Program} {w : World} {A : Around} {E : Value → Shared → Prop} {s : Shared} {h₀ : Heap} {L l a b : Addr} {m : Str → Option Value} {news : List (Addr × Obj)} {value slice : PySem.Expr} {vs ws : List Value} {ps qs : List (Array UInt8)} {k k' : Nat} {t : Tok} {Q : Value → Shared → Prop}
theorem slice_init (F : Fr h₀ L s.heap m) (N : News h₀ L s.heap news) (hm : (l, listOf vs.toArray k) ∈ news) (hb : BA vs ps) (hz : ps.length ≤ 16777216)
    (h : ∀ D ws h', Fr h₀ L h' m → News h₀ L h' ((D, listOf (List.toArray ws) 0) :: news) → (∀ p ∈ news, p.1 < D) → BA ws ps.dropLast → Q (.ref D) { s with heap := h' })
    (hs : subscripted slice false (.ref l) (.ref s.heap.objs.size) = operate [.ref s.heap.objs.size, .ref l] (getItem (.ref l) (.ref s.heap.objs.size)) := by with_unfolding_all rfl) (ht : ∀ r, letTemporaryGo value (.ref l) r = pure () := by intro _; with_unfolding_all rfl) :
    wpAny (model prog w) A (subscriptTail value slice (.ref l) (.ref s.heap.objs.size)) Q E { s with heap := s.heap.push { cls := .type "slice", data := .fields #[.none, .int (-1) t, .none] } } := by
  refine kmk_slice F N (News.isList N hm) .none (.int _ _) (fun D h' F' N' l1 => h D vs.dropLast h' F' ?_ l1 hb.dropLast) hs ht (by rw [List.size_toArray, hb.length, sizeLine_eq]; exact hz)
  have e := congrArg List.toArray (pick_init vs)
  rw [Array.toArray_toList] at e
  rw [← e]; exact N'
theorem slice_last (F : Fr h₀ L s.heap m) (N : News h₀ L s.heap news) (hm : (l, listOf vs.toArray k) ∈ news) (hb : BA vs ps) (hz : ps.length ≤ 16777216)
    (h : ∀ D ws h', Fr h₀ L h' m → News h₀ L h' ((D, listOf (List.toArray ws) 0) :: news) → (∀ p ∈ news, p.1 < D) → BA ws (ps.drop (ps.length - 1)) → Q (.ref D) { s with heap := h' })
    (hs : subscripted slice false (.ref l) (.ref s.heap.objs.size) = operate [.ref s.heap.objs.size, .ref l] (getItem (.ref l) (.ref s.heap.objs.size)) := by with_unfolding_all rfl) (ht : ∀ r, letTemporaryGo value (.ref l) r = pure () := by intro _; with_unfolding_all rfl) :
    wpAny (model prog w) A (subscriptTail value slice (.ref l) (.ref s.heap.objs.size)) Q E { s with heap := s.heap.push { cls := .type "slice", data := .fields #[.int (-1) t, .none, .none] } } := by
  refine kmk_slice F N (News.isList N hm) (.int _ _) .none (fun D h' F' N' l1 => h D (vs.drop (vs.length - 1)) h' F' ?_ l1 (by rw [hb.length]; exact hb.drop _)) hs ht (by rw [List.size_toArray, hb.length, sizeLine_eq]; exact hz)
  have e := congrArg List.toArray (pick_last vs)
  rw [Array.toArray_toList] at e
  rw [← e]; exact N'
theorem add_BA (F : Fr h₀ L s.heap m) (N : News h₀ L s.heap news) (ha : (a, listOf vs.toArray k) ∈ news) (hb : (b, listOf ws.toArray k') ∈ news) (hi : BA vs ps) (hj : BA ws qs) (hz : ps.length + qs.length ≤ 16777216)
    (h : ∀ D us h', Fr h₀ L h' m → News h₀ L h' ((D, listOf (List.toArray us) 0) :: news) → (∀ p ∈ news, p.1 < D) → BA us (ps ++ qs) → Q (.ref D) { s with heap := h' }) :
    wpAny (model prog w) A (binaryOp .Add (.ref a) (.ref b)) Q E s :=
  add_arrays (hsz := by rw [List.size_toArray, List.size_toArray, hi.length, hj.length, sizeLine_eq]; exact hz) F N (News.isList N ha) (News.isList N hb)
    fun h' F' N' => h _ (vs ++ ws) h' F' N' (fun p hp => Heap.lt_size (N p hp).1) (hi.append hj)
end

theorem sum_len (b : Array UInt8) (hz : b.size ≤ 16777000) : ((rowsB b #[10]).dropLast.map chopB).length + ((rowsB b #[10]).drop ((rowsB b #[10]).length - 1)).length ≤ 16777216 := by
  have h := rows_len b
  simp only [List.length_map, List.length_dropLast, List.length_drop]
  omega
section
variable {prog : Program} {w : World} {A : Around} {E : Value → Shared → Prop} {s : Shared} {l : Addr} {b : Array UInt8} {t : Tok} {vs : List Value} {Q : Value → Shared → Prop}
theorem join_down (hl : s.heap.IsList l vs.toArray) (hb : BA vs ((rowsB b #[10]).dropLast.map chopB ++ (rowsB b #[10]).drop ((rowsB b #[10]).length - 1))) (hz : b.size ≤ 8000000)
    (h : ∀ t' k, Q (.bytes (downB b) t') { s with toks := k }) : wpAny (model prog w) A (call (.builtin "bytes.join") [.bytes #[10] t, .ref l]) Q E s := by
  have h1 := parts_tot b
  have h2 := rows_len b
  have h3 := down_size b
  refine join_K hl (ps := partsB b) hb ?_ ?_ h
  · rw [fold_tot, sizeLine_eq]; show 1 * _ + _ ≤ _; omega
  · rw [sizeLine_eq]; show (downB b).size ≤ _; omega
theorem replace_down {u v : Tok} (hz : b.size ≤ 8000000) (h : ∀ t' k, Q (.bytes (downB b) t') { s with toks := k }) :
    wpAny (model prog w) A (call (.builtin "bytes.replace") [.bytes b t, .bytes #[13, 10] u, .bytes #[10] v]) Q E s := by
  have h3 := down_size b
  have h4 := occ_length b #[13, 10] (by decide)
  refine replace_K rfl ?_ ?_ (fun t' k => ?_)
  · rw [sizeLine_eq]; show b.size + (Bytes.occurrences b #[13, 10] 0 b.size).length * 1 ≤ _; omega
  · rw [rep_down, sizeLine_eq]; omega
  · rw [rep_down]; exact h t' k
theorem join_up (hl : s.heap.IsList l vs.toArray) (hb : BA vs ((rowsB b #[10]).dropLast.map chopB ++ (rowsB b #[10]).drop ((rowsB b #[10]).length - 1))) (hz : b.size ≤ 4000000)
    (h : ∀ t' k, Q (.bytes (upB b) t') { s with toks := k }) : wpAny (model prog w) A (call (.builtin "bytes.join") [.bytes #[13, 10] t, .ref l]) Q E s := by
  have h1 := parts_tot b
  have h2 := rows_len b
  have h3 := up_size b
  refine join_K hl (ps := partsB b) hb ?_ ?_ h
  · rw [fold_tot, sizeLine_eq]; show 2 * _ + _ ≤ _; omega
  · rw [sizeLine_eq]; show (upB b).size ≤ _; omega
end

def KbEl (news : List (Addr × Obj)) (q : Array UInt8) (y : Value) (news' : List (Addr × Obj)) : Prop := news' = news ∧ ∃ t : Tok, y = .bytes q t
section
variable {prog : Program} {w : World} {A : Around} {h₀ : Heap} {L : Addr} {m : Str → Option Value} {env : Env} {elt : Expr} {x : Str} {scope : Scope} {cl : List (Str × Addr)} {s : Shared} {S : List (Addr × Obj) → Prop} {P : Nat → Value → Prop} {Fin : List Value → List (Addr × Obj) → Prop} {news : List (Addr × Obj)}
theorem kcb_rest {n : Nat} {ps : List (Array UInt8)} (g : Array UInt8 → Array UInt8) (hks : ps.length = n) (hP : ∀ i v, i < n → P i v → ∃ p t, ps[i]? = some p ∧ v = Value.bytes p t)
    (turn : ∀ p t I oI C oC D m₂ ys h tk (E' : Value → Shared → Prop), p ∈ ps → LCg.NsObj oC m₂ → m₂ x = some (.bytes p t) → Fr h₀ L h m → News h₀ L h ((I, oI) :: (C, oC) :: (D, LCg.lst ys) :: news) → LCg.Off3 I C D news → ((@Ne Nat I C) ∧ (@Ne Nat I D) ∧ (@Ne Nat C D)) →
      wpAny (model prog w) A (eval elt (compEnvC scope cl C env)) (LCg.CompEnd h₀ L m { s with heap := h, toks := tk } I oI C oC D (LCg.lst ys) S (fun y news' => KbEl news (g p) y news')) E' { s with heap := h, toks := tk })
    (fin : ∀ ys, BA ys (ps.map g) → Fin ys news) : LCg.CompRest prog w A h₀ L m env elt x scope cl s S P Fin n 0 [] news := by
  have key : ∀ (j i : Nat) (ys : List Value), i + j = n → BA ys ((ps.take i).map g) → LCg.CompRest prog w A h₀ L m env elt x scope cl s S P Fin j i ys news := by
    intro j
    induction j with
    | zero =>
      intro i ys hi hy
      have e : i = ps.length := by omega
      subst e
      rw [List.take_length] at hy
      exact LCg.CompRest.zero (fin ys hy)
    | succ j ih =>
      intro i ys hi hy
      refine LCg.CompRest.succ ?_
      intro v I oI C oC D m₂ h tk E' hv hC hx F N off ne
      obtain ⟨p, t, hk, hv'⟩ := hP i v (by omega) hv
      rw [hv'] at hx
      refine wpAny_mono (turn p t I oI C oC D m₂ ys h tk E' (List.mem_of_getElem? hk) hC hx F N off ne) (fun y s₂ hq => ?_) fun _ _ e => e
      obtain ⟨h', tk', nw, e, F', N', off', hS, hn, t', hy'⟩ := hq
      rw [hn] at N' off' hS
      refine ⟨h', tk', news, e, F', N', off', hS, ?_⟩
      rw [hy']
      refine ih (i + 1) _ (by omega) ?_
      rw [List.take_add_one, hk]
      simpa using BA.append hy (BA.one (g p) t')
  exact key n 0 [] (by omega) (by simp only [List.take_zero, List.map_nil]; exact .nil)
theorem kcb_list {vs : List Value} {ps : List (Array UInt8)} (g : Array UInt8 → Array UInt8) (hi : BA vs ps)
    (turn : ∀ p t I oI C oC D m₂ ys h tk (E' : Value → Shared → Prop), p ∈ ps → LCg.NsObj oC m₂ → m₂ x = some (.bytes p t) → Fr h₀ L h m → News h₀ L h ((I, oI) :: (C, oC) :: (D, LCg.lst ys) :: news) → LCg.Off3 I C D news → ((@Ne Nat I C) ∧ (@Ne Nat I D) ∧ (@Ne Nat C D)) →
      wpAny (model prog w) A (eval elt (compEnvC scope cl C env)) (LCg.CompEnd h₀ L m { s with heap := h, toks := tk } I oI C oC D (LCg.lst ys) S (fun y news' => KbEl news (g p) y news')) E' { s with heap := h, toks := tk })
    (fin : ∀ ys, BA ys (ps.map g) → Fin ys news) : LCg.CompRest prog w A h₀ L m env elt x scope cl s S (fun i v => vs.toArray[i]? = some v) Fin vs.toArray.size 0 [] news :=
  kcb_rest g (by rw [List.size_toArray]; exact hi.length.symm) (fun i v _ hv => hi.get (by simpa using hv)) turn fin
end
theorem withSize {n : Nat} {p : Array UInt8} {P : Prop} (h : p.size ≤ n) (k : p.size ≤ n → P) : P := k h
theorem el_of {news : List (Addr × Obj)} {q q' : Array UInt8} {t : Tok} (e : q' = q) : KbEl news q (.bytes q' t) news := by subst e; exact ⟨rfl, t, rfl⟩
theorem chop_pos {p : Array UInt8} (h : ((KBy.picked p (some (-1)) none).toList == [13]) = true) : KBy.picked p none (some (-1)) = chopB p := by unfold chopB; rw [if_pos h]
theorem chop_neg {p : Array UInt8} (h : ¬ ((KBy.picked p (some (-1)) none).toList == [13]) = true) : p = chopB p := by unfold chopB; rw [if_neg h]
end Mine

namespace Mine
open PySem.Calls PyProof.V PySem.Spec Builtin
set_option maxRecDepth 100000

/-- what a loop over enumerate makes of the parts so far -/
def outs (G : Nat → Array UInt8 → Array UInt8) (ps : List (Array UInt8)) : List (Array UInt8) := ps.zipIdx.map (fun x => G x.2 x.1)
theorem outs_take (G : Nat → Array UInt8 → Array UInt8) {ps : List (Array UInt8)} {i : Nat} {p : Array UInt8} (h : ps[i]? = some p) : outs G (ps.take (i + 1)) = outs G (ps.take i) ++ [G i p] := by
  have hlt : i < ps.length := (List.getElem?_eq_some_iff.mp h).1
  unfold outs
  rw [List.take_add_one, h, List.zipIdx_append, List.map_append]
  simp [Nat.min_eq_left (Nat.le_of_lt hlt)]
theorem BA.cons_inv {v : Value} {vs : List Value} {ps : List (Array UInt8)} (h : BA (v :: vs) ps) : ∃ p t ps', ps = p :: ps' ∧ v = .bytes p t ∧ BA vs ps' := by
  cases h with
  | cons h => exact ⟨_, _, _, rfl, rfl, h⟩

section
variable {prog : Program} {w : World} {A : Around} {E : Value → Shared → Prop} {s : Shared} {env : Env} {h₀ : Heap} {target : Expr} {body : List Stmt} {Q : Flow → Shared → Prop}
theorem fr_split {h : Heap} {L : Addr} {m m₀ : Str → Option Value} {x y : Str} (F : Fr h₀ L h m) (hm : ∀ z, z ≠ x → z ≠ y → m z = m₀ z) : Fr h₀ L h (fun z => if z = x then m x else if z = y then m y else m₀ z) := by
  have e : m = (fun z => if z = x then m x else if z = y then m y else m₀ z) := by
    funext z
    by_cases h1 : z = x
    · subst h1; simp
    · by_cases h2 : z = y
      · subst h2; simp [h1]
      · simp [h1, h2, hm z h1 h2]
  rw [e] at F
  simpa using F
theorem enum_rest {ws : List (Addr × String)} {keep : List (Addr × Obj)} {m₀ : Str → Option Value} {vs : List Value} {ps : List (Array UInt8)} (G : Nat → Array UInt8 → Array UInt8) (x y : Str) (news : List Value → Nat → List (Addr × Obj)) {n₀ : Nat}
    (hb : BA vs ps) (hkeep : ∀ us n, SubL keep (news us n))
    (step : ∀ i p t a b us n (R : (Str → Option Value) → List (Addr × Obj) → Prop), i < ps.length → ps[i]? = some p → us.length = i →
      (∀ m' t' n', (∀ z, z ≠ x → z ≠ y → m' z = m₀ z) → R m' (news (us ++ [.bytes (G i p) t']) n')) →
      ∀ T t' h tk, IsTup h T #[.int (i : Int) t', .bytes p t] → Fr h₀ env.locals h (fun z => if z = x then a else if z = y then b else m₀ z) →
        AllObj ws (fun its => News h₀ env.locals h (its ++ news us n) →
          wpAny (model prog w) A (assign target env (.ref T)) (fun _ s₂ => wpAny (model prog w) A (execs body env) (UnrPostW h₀ env.locals { s with heap := h, toks := tk } its R Q) E s₂) E { s with heap := h, toks := tk }))
    (done : ∀ us n a b h tk, BA us (outs G ps) → Fr h₀ env.locals h (fun z => if z = x then a else if z = y then b else m₀ z) → News h₀ env.locals h (news us n) → Q .next { s with heap := h, toks := tk }) :
    ItemsRest prog w A E h₀ env target body Q s ws keep (enumItems 0 vs) m₀ (news [] n₀) := by
  have key : ∀ (rv : List Value) (i : Nat) (m : Str → Option Value) (us : List Value) (n : Nat), vs.drop i = rv → i ≤ ps.length → BA us (outs G (ps.take i)) → (∀ z, z ≠ x → z ≠ y → m z = m₀ z) →
      ItemsRest prog w A E h₀ env target body Q s ws keep (enumItems i rv) m (news us n) := by
    intro rv
    induction rv with
    | nil =>
      intro i m us n hd hi hu hm
      have e : ps.length ≤ i := by rw [← hb.length]; exact List.drop_eq_nil_iff.mp hd
      rw [List.take_of_length_le e] at hu
      exact ItemsRest.zero fun h tk F N => done us n _ _ h tk hu (fr_split F hm) N
    | cons v rv ih =>
      intro i m us n hd hi hu hm
      have hlt : i < vs.length := by
        rcases Nat.lt_or_ge i vs.length with q | q
        · exact q
        · rw [List.drop_eq_nil_of_le q] at hd; cases hd
      have hv : vs[i]? = some v := by
        have h1 := congrArg List.head? hd
        rw [List.head?_drop] at h1
        exact h1
      obtain ⟨p, t, hp, rfl⟩ := hb.get hv
      have hd' : vs.drop (i + 1) = rv := by
        rw [← List.drop_drop, hd]; rfl
      refine ItemsRest.pair fun T t' h tk hT F => ?_
      have hul : us.length = i := by rw [hu.length]; unfold outs; simp [Nat.min_eq_left hi]
      refine step i p t _ _ us n _ (by rw [← hb.length]; exact hlt) hp hul (fun m' t'' n' hm' => ⟨hkeep _ _, ?_⟩) T t' h tk hT (fr_split F hm)
      refine ih (i + 1) m' _ n' hd' (by rw [← hb.length]; exact hlt) ?_ hm'
      rw [outs_take G hp]
      exact hu.append (BA.one _ _)
  exact key vs 0 m₀ [] n₀ rfl (Nat.zero_le _) (by simp only [List.take_zero]; exact .nil) fun _ _ _ => rfl
theorem lf_enum {elts : List Expr} {ek : Nat} {pos : Pos} {D l : Addr} {vs : List Value} {ps : List (Array UInt8)} {m₀ : Str → Option Value} {news : List (Addr × Obj)} {kk n₀ : Nat} (G : Nat → Array UInt8 → Array UInt8) (x y : Str)
    (hh : A.handled = none) (F : Fr h₀ env.locals s.heap m₀) (N : News h₀ env.locals s.heap ((D, listOf (List.toArray []) n₀) :: (l, listOf vs.toArray kk) :: news)) (hb : BA vs ps)
    (step : ∀ (I : Addr), I > D → I > l → (∀ p ∈ news, p.1 < I) → ∀ i p t a b us n (R : (Str → Option Value) → List (Addr × Obj) → Prop), i < ps.length → ps[i]? = some p → us.length = i →
      (∀ m' t' n', (∀ z, z ≠ x → z ≠ y → m' z = m₀ z) → R m' ((D, listOf (us ++ [.bytes (G i p) t']).toArray n') :: (l, listOf vs.toArray kk) :: news)) →
      ∀ T t' h tk, IsTup h T #[.int (i : Int) t', .bytes p t] → Fr h₀ env.locals h (fun z => if z = x then a else if z = y then b else m₀ z) →
        ∀ o1 o2 : Obj, o1.cls = .type "enumerate" → o2.cls = .type "list_iterator" → News h₀ env.locals h ((I + 1, o1) :: (I, o2) :: (D, listOf us.toArray n) :: (l, listOf vs.toArray kk) :: news) →
          wpAny (model prog w) A (assign (.Tuple elts ek pos) env (.ref T)) (fun _ s₂ => wpAny (model prog w) A (execs body env) (UnrPostW h₀ env.locals { s with heap := h, toks := tk } [(I + 1, o1), (I, o2)] R Q) E s₂) E { s with heap := h, toks := tk })
    (done : ∀ us n a b h tk, BA us (outs G ps) → Fr h₀ env.locals h (fun z => if z = x then a else if z = y then b else m₀ z) → News h₀ env.locals h ((D, listOf us.toArray n) :: (l, listOf vs.toArray kk) :: news) → Q .next { s with heap := h, toks := tk }) :
    wpAny (model prog w) A (call (.type "enumerate") [.ref l]) (fun xv s₁ => wpAny (model prog w) A (pyIter xv) (fun it s₂ => TurnsAt prog w A h₀ env (.Tuple elts ek pos) body Q E it s₂) E s₁) E s := by
  refine ktu_enum hh F N (List.Mem.tail _ (List.Mem.head _)) rfl rfl rfl (fun I hI => ?_)
  refine enum_rest G x y (fun us n => (D, listOf us.toArray n) :: (l, listOf vs.toArray kk) :: news) hb (fun us n => And.intro (List.Mem.tail _ (List.Mem.head _)) trivial) ?_ done
  intro i p t a b us n R hlt hp hu hR T t' h tk hT F'
  refine AllObj.cons fun o1 h1 => AllObj.cons fun o2 h2 => AllObj.nil fun N' => ?_
  exact step I (hI _ (List.Mem.head _)) (hI _ (List.Mem.tail _ (List.Mem.head _))) (fun q hq => hI q (List.Mem.tail _ (List.Mem.tail _ hq))) i p t a b us n R hlt hp hu hR T t' h tk hT F' o1 o2 h1 h2 N'
end

def lfG (N : Nat) (i : Nat) (p : Array UInt8) : Array UInt8 := if (i : Int) < (N : Int) - 1 ∧ endsB p #[13] = true then KBy.picked p none (some (-1)) else p
theorem lfG_yes {N i : Nat} {p : Array UInt8} (h1 : (i : Int) < (N : Int) - 1) (h2 : endsB p #[13] = true) : lfG N i p = KBy.picked p none (some (-1)) := if_pos ⟨h1, h2⟩
theorem lfG_no1 {N i : Nat} {p : Array UInt8} (h1 : ¬ ((i : Int) < (N : Int) - 1)) : lfG N i p = p := if_neg fun h => h1 h.1
theorem lfG_no2 {N i : Nat} {p : Array UInt8} (h2 : endsB p #[13] = false) : lfG N i p = p := if_neg fun h => Bool.false_ne_true (h2.symm.trans h.2)
section
variable {prog : Program} {w : World} {A : Around} {E : Value → Shared → Prop} {s : Shared} {h₀ : Heap} {L : Addr} {m : Str → Option Value} {news : List (Addr × Obj)}
theorem len_BA {l : Addr} {vs : List Value} {k : Nat} {ps : List (Array UInt8)} {Q : Value → Shared → Prop} (N : News h₀ L s.heap news) (hm : (l, listOf vs.toArray k) ∈ news) (hb : BA vs ps) (hz : ps.length ≤ 16777216)
    (h : ∀ t k, Q (.int (ps.length : Int) t) { s with toks := k }) : wpAny (model prog w) A (call (.builtin "len") [.ref l]) Q E s := by
  have e : ((vs.toArray.size : Nat) : Int) = (ps.length : Int) := by rw [List.size_toArray, hb.length]
  refine Calls.call_len_list (News.isList N hm) (by rw [e]; omega) ?_
  rw [e]; exact h _ _
theorem unr_end {I D l : Addr} {o1 o2 oD ol : Obj} {R : (Str → Option Value) → List (Addr × Obj) → Prop} {s₁ : Shared} {h' : Heap} {tk : Nat} (F : Fr h₀ L h' m) (N : News h₀ L h' ((I + 1, o1) :: (I, o2) :: (D, oD) :: (l, ol) :: news))
    (hD : I > D) (hl : I > l) (hn : ∀ p ∈ news, p.1 < I) (r : R m ((D, oD) :: (l, ol) :: news)) : UnrEndW h₀ L s₁ [(I + 1, o1), (I, o2)] R { s₁ with heap := h', toks := tk } := by
  refine ⟨h', tk, m, (D, oD) :: (l, ol) :: news, rfl, F, N, ?_, r⟩
  have key : ∀ p ∈ (D, oD) :: (l, ol) :: news, p.1 < I := by
    intro p hp
    rcases List.mem_cons.mp hp with rfl | hp
    · exact hD
    · rcases List.mem_cons.mp hp with rfl | hp
      · exact hl
      · exact hn p hp
  intro p hp q hq e
  have h1 : p.1 < I := key p hp
  rcases List.mem_cons.mp hq with rfl | hq
  · have h2 : p.1 = I + 1 := e
    rw [h2] at h1
    exact absurd h1 (Nat.not_lt.mpr (Nat.le_succ I))
  · rw [List.mem_singleton.mp hq] at e
    have h2 : p.1 = I := e
    rw [h2] at h1
    exact absurd h1 (Nat.lt_irrefl I)
theorem allLt_mem {d : Addr} : ∀ {l : List (Addr × Obj)}, AllLt d l → ∀ p ∈ l, p.1 < d
  | [], _, _, hp => nomatch hp
  | _ :: _, h, p, hp => by
    rcases List.mem_cons.mp hp with rfl | hp
    · exact h.1
    · exact allLt_mem h.2 p hp
theorem append_E {I D l : Addr} {o1 o2 lo : Obj} {us : List Value} {n : Nat} {x : Value} {Q : Value → Shared → Prop} (F : Fr h₀ L s.heap m) (N : News h₀ L s.heap ((I + 1, o1) :: (I, o2) :: (D, listOf us.toArray n) :: (l, lo) :: news))
    (hI : I > D) (hl : l < D) (hn : ∀ p ∈ news, p.1 < D) (hz : us.length ≤ 16777216)
    (h : ∀ h' k, Fr h₀ L h' m → News h₀ L h' ((I + 1, o1) :: (I, o2) :: (D, listOf (us ++ [x]).toArray (n + 1)) :: (l, lo) :: news) → Q .none { s with heap := h', toks := k }) :
    wpAny (model prog w) A (call (.builtin "list.append") [.ref D, x]) Q E s := by
  refine append_K F N (Upd.tail (fun e => ?_) (Upd.tail (fun e => ?_) (Upd.head fun p hp e => ?_))) (fun h' F' N' => h h' _ F' (by simpa using N')) (by rw [List.size_toArray, sizeLine_eq]; exact hz)
  · have e' : I + 1 = D := e
    rw [← e'] at hI
    exact absurd hI (Nat.not_lt.mpr (Nat.le_succ I))
  · have e' : I = D := e
    rw [e'] at hI
    exact absurd hI (Nat.lt_irrefl D)
  · rcases List.mem_cons.mp hp with rfl | hp
    · exact Nat.ne_of_lt hl e
    · exact Nat.ne_of_lt (hn p hp) e
end
theorem ends_chop (p : Array UInt8) : endsB p #[13] = ((KBy.picked p (some (-1)) none).toList == [13]) := by
  rw [last_toList]
  have e : Bytes.window p.size none none = (0, (p.size : Int)) := by
    have h0 : ¬ ((p.size : Int) < 0) := by omega
    simp [Bytes.window, h0]
  unfold endsB
  rw [e]
  simp only [Int.sub_zero, Int.toNat_natCast]
  show (if (p.size : Int) < ((1 : Nat) : Int) then false else p.extract (p.size - 1) p.size == #[13]) = _
  by_cases h : (p.size : Int) < ((1 : Nat) : Int)
  · rw [if_pos h]
    have e0 : p.toList.drop (p.size - 1) = [] := List.drop_eq_nil_of_le (by rw [Array.length_toList]; omega)
    rw [e0]; rfl
  · rw [if_neg h, Bool.eq_iff_iff, beq_iff_eq, beq_iff_eq, ← Array.toList_inj, extract_toList]
    have e1 : List.take (p.size - (p.size - 1)) (List.drop (p.size - 1) p.toList) = List.drop (p.size - 1) p.toList := List.take_of_length_le (by simp)
    rw [e1]
theorem lf_outs (ps : List (Array UInt8)) : outs (lfG ps.length) ps = ps.dropLast.map chopB ++ ps.drop (ps.length - 1) := by
  have key : ∀ (qs : List (Array UInt8)) (i N : Nat), i + qs.length = N → (qs.zipIdx i).map (fun x => lfG N x.2 x.1) = qs.dropLast.map chopB ++ qs.drop (qs.length - 1) := by
    intro qs
    induction qs with
    | nil => intro i N h; simp
    | cons q r ih =>
      intro i N h
      rw [List.zipIdx_cons, List.map_cons]
      cases r with
      | nil =>
        have hn : ¬ ((i : Int) < (N : Int) - 1) := by simp at h; omega
        simp [lfG, hn]
      | cons y z =>
        rw [ih (i + 1) N (by simp at h ⊢; omega)]
        have hp : ((i : Int) < (N : Int) - 1) := by simp at h; omega
        have e : lfG N i q = chopB q := by
          unfold lfG chopB
          rw [← ends_chop]
          by_cases he : endsB q #[13] = true
          · rw [if_pos ⟨hp, he⟩, if_pos he]
          · rw [if_neg (fun h => he h.2), if_neg he]
        simp [e]
  exact key ps 0 ps.length (by omega)
end Mine

namespace Mine
open PySem.Calls PyProof.V PySem.Spec Builtin
set_option maxRecDepth 100000
local macro_rules | `(tactic| walk_at "compareOp In bytes bytes") => `(tactic| (k_here; (with_reducible show wpAny _ _ (compareOp CmpOp.In (Value.bytes _ _) (Value.bytes _ _)) _ _ _); k_dflt (refine' in_K ?mF ?mN ?mh ?_; (case mF => k_asm); (case mN => k_asm); (case mh => exact rfl)); intro _ _ F' N'; (try k_sweep)))
local macro_rules | `(tactic| walk_at "compareOp NotIn bytes bytes") => `(tactic| (k_here; (with_reducible show wpAny _ _ (compareOp CmpOp.NotIn (Value.bytes _ _) (Value.bytes _ _)) _ _ _); k_dflt (refine' notIn_K ?mF ?mN ?mh ?_; (case mF => k_asm); (case mN => k_asm); (case mh => exact rfl)); intro _ _ F' N'; (try k_sweep)))
local macro_rules | `(tactic| walk_at "subscriptTail") => `(tactic| (k_here; (with_reducible show wpAny _ _ (subscriptTail _ (Expr.Slice _ _ none _) (Value.bytes _ _) (Value.ref _)) _ _ _); (with_reducible rename Fr _ _ _ _ => F'); (with_reducible rename News _ _ _ _ => N'); (refine slice_B (s := ⟨_, _, _, _, _⟩) F' N' (by constructor) (by constructor) (by first | assumption | omega) ?_); intro _ _ _ F' N'))
local macro_rules | `(tactic| walk_at "getMethod bytes") => `(tactic| (k_here; (with_reducible first | refine m_join ?_ | refine m_replace ?_ | refine m_split ?_ | refine m_endswith ?_)))
local macro_rules | `(tactic| walk_at "call builtin:bytes.endswith") => `(tactic| (k_here; refine endswith_K ?_))
local macro_rules | `(tactic| walk_at "call builtin:bytes.split") => `(tactic| (k_here; k_dflt (refine' split_K ?mF ?mN ?mo ?mz ?mn ?_; (case mF => k_asm); (case mN => k_asm); (case mo => rfl); (case mz => exact fun p hp => Nat.le_trans (rows_size _ p hp) (by rw [sizeLine_eq]; omega)); (case mn => exact Nat.le_trans (rows_len _) (by rw [sizeLine_eq]; omega))); intro l' h' vs' _ F' N' l1 hBA'; (try k_lt l1); (try k_sweep)))
local macro_rules | `(tactic| walk_at "subscriptTail") => `(tactic| (k_here; (with_reducible show wpAny _ _ (subscriptTail _ (Expr.Slice none (some _) none _) (Value.ref _) (Value.ref _)) _ _ _); (with_reducible rename Fr _ _ _ _ => F'); (with_reducible rename News _ _ _ _ => N'); (with_reducible rename BA _ _ => hBA'); (refine slice_init (s := ⟨_, _, _, _, _⟩) F' N' (by k_mem) hBA' (Nat.le_trans (rows_len _) (by omega)) ?_); intro D' ws' h' F' N' l1 hBA'; (try k_lt l1); (try k_sweep)))
local macro_rules | `(tactic| walk_at "subscriptTail") => `(tactic| (k_here; (with_reducible show wpAny _ _ (subscriptTail _ (Expr.Slice (some _) none none _) (Value.ref _) (Value.ref _)) _ _ _); (with_reducible rename Fr _ _ _ _ => F'); (with_reducible rename News _ _ _ _ => N'); (refine slice_last (s := ⟨_, _, _, _, _⟩) F' N' (by k_mem) (by assumption) (Nat.le_trans (rows_len _) (by omega)) ?_); intro D' ws' h' F' N' l1 hBA'; (try k_lt l1); (try k_sweep)))
local macro_rules | `(tactic| walk_at "eval ListComp") => `(tactic| (k_here; (with_reducible rename BA _ _ => hBA'); k_dflt (refine LCg.ListComp_U (F₀ := by k_asm) (by with_unfolding_all rfl) (by decide) (by rfl) (by decide) (by rfl) ?_)))
local macro_rules | `(tactic| walk_at "CompSrc") => `(tactic| (k_here; (with_reducible rename BA _ _ => hBA'); k_dflt (refine LCg.CompSrc.ledger (by rfl) (by k_asm) (by k_asm) (by k_mem) (by rw [List.size_toArray, hBA'.length, sizeLine_eq, List.length_dropLast]; exact Nat.le_trans (Nat.sub_le _ _) (Nat.le_trans (rows_len _) (by omega))) ?_; intro g'; (refine' kcb_list chopB hBA' (fun p' t' I' oI' C' oC' D' m' ys' h' tk' E' hk' hC' hx' F' N' off' ne' => (Mine.withSize (Nat.le_trans (rows_size _ p' (List.dropLast_subset _ hk')) (by omega)) (fun hps' => ?_))) (fun ys' hBA' => ?_)); (all_goals (try (simp only [LCg.Off3, and_true] at off'))); (all_goals (try k_fold)))))
local macro_rules | `(tactic| walk_at "CompEnd") => `(tactic| (refine LCg.CompEnd.intro (by assumption) (by assumption) _ (fun _ hp => hp) (by first | assumption | (simp only [LCg.Off3, and_true]; assumption)) (by lcg_src) (el_of ?_); first | exact chop_pos (by assumption) | exact chop_neg (by assumption) | exact chop_neg (ne_true_of_eq_false (by assumption))))
local macro_rules | `(tactic| walk_at "binaryOp Add ref ref") => `(tactic| (k_here; (with_reducible show wpAny _ _ (binaryOp _ (Value.ref _) (Value.ref _)) _ _ _); k_dflt (refine' add_BA ?F ?N ?a ?b ?i ?j ?z ?_; (case F => k_asm); (case N => k_asm); (case a => k_mem); (case b => k_mem); (case i => assumption); (case j => assumption); (case z => exact sum_len _ (by omega))); intro D' us' h' F' N' l1 hBA'; (try k_lt l1); (try k_sweep)))
local macro_rules | `(tactic| walk_at "call builtin:bytes.join") => `(tactic| (k_here; k_dflt (first | refine' join_down ?l ?b ?z ?_ | refine' join_up ?l ?b ?z ?_); (case l => exact News.isList (by k_asm) (by k_mem)); (case b => assumption); (case z => omega); intro _ _))
local macro_rules | `(tactic| walk_at "call builtin:bytes.replace") => `(tactic| (k_here; k_dflt (refine' replace_down ?z ?_; (case z => omega)); intro _ _))
local macro_rules | `(tactic| walk_at "compareOp In bytes ref") => `(tactic| (k_here; (with_reducible show wpAny _ _ (compareOp CmpOp.In (Value.bytes _ _) (Value.ref _)) _ _ _); k_dflt (refine' in_tup2 ?mN ?mm ?_; (case mN => k_asm); (case mm => k_mem))))
local macro_rules | `(tactic| walk_at "call builtin:bytes.decode") => `(tactic| (k_here; (refine decode_p ?_); intro _ _))
/-- what a call of the def at f with the values vs hands back, whatever stands around it; k: the frames that it wants -/
def CR (k : Nat) (w : World) (p : Program) (loose : List Str) (mean : ExcName → Option Value) (mg mb : Str → Option Value) (f : Addr) (news : List (Addr × Obj)) (pre : Prop) (vs : List Value) (R : Tok → Value) : Prop :=
  ∀ (dp un : Nat) (gd : Option (List Code)) (cn : Str) (cs : Scope) (a : Addr) (ccd : Value) (cl : List (Str × Addr)) (outer : List Env) (A₀ : Around) (base h₀ : Heap) (L : Addr) (m : Str → Option Value) (s : Shared) (Q E : Value → Shared → Prop),
    Below A₀ base outer h₀ → Fr h₀ L s.heap m → Frag.In (hd.heap_39 w.params) h₀ → News h₀ L s.heap news → Top p loose mean mg mb h₀ → cs.kind = .function → pre → dp + k < recursionLimit → un + 8 * k < cLine →
    (∀ (t : Tok) (h' : Heap) (tk' : Nat), Fr h₀ L h' m → News h₀ L h' news → Q (R t) { s with heap := h', toks := tk' }) →
    wpAny (model PySem.Challenge.rw_at6009_01.row.prog w) (ktrTop dp un gd cn cs L a ccd cl outer) (call (.ref f) vs) Q E s
def isBin (b : Array UInt8) : Bool := hasB (KBy.picked b none (some 8000)) #[0]

set_option maxHeartbeats 4000000 in
theorem c_isbin (w : World) (p : Program) (loose : List Str) (mean : ExcName → Option Value) (mg mb : Str → Option Value) (news : List (Addr × Obj)) (b : Array UInt8) (t : Tok) :
    CR 1 w p loose mean mg mb 21 news (b.size ≤ 100000) [.bytes b t] (fun _ => .bool (isBin b)) := by
  unfold CR
  k_fill
  w_top off
  intro dp un gd cn cs a ccd cl outer A₀ base h₀ L m s Q E B F X N T hk hz hdp hu hret
  have hz' : b.size ≤ 16777216 := by omega
  refine wpAny_call ?_
  k_dflt cell_enter
  k_steps
  all_goals exact hret 0 _ _ (by assumption) (by assumption)

theorem CR.use {k : Nat} {w : World} {p : Program} {loose : List Str} {mean : ExcName → Option Value} {mg mb : Str → Option Value} {f : Addr} {news : List (Addr × Obj)} {pre : Prop} {vs : List Value} {R : Tok → Value}
    {dp un : Nat} {gd : Option (List Code)} {cn : Str} {cs : Scope} {a : Addr} {ccd : Value} {cl : List (Str × Addr)} {outer : List Env} {A₀ : Around} {base h₀ : Heap} {L : Addr} {m : Str → Option Value} {s : Shared} {Q E : Value → Shared → Prop}
    (C : CR k w p loose mean mg mb f news pre vs R) (B : Below A₀ base outer h₀) (F : Fr h₀ L s.heap m) (X : Frag.In (hd.heap_39 w.params) h₀) (N : News h₀ L s.heap news) (T : Top p loose mean mg mb h₀) (hk : cs.kind = .function)
    (hp : pre) (hdp : dp + k < recursionLimit) (hu : un + 8 * k < cLine) (ret : ∀ (t : Tok) (h' : Heap) (tk' : Nat), Fr h₀ L h' m → News h₀ L h' news → Q (R t) { s with heap := h', toks := tk' }) :
    wpAny (model PySem.Challenge.rw_at6009_01.row.prog w) (ktrTop dp un gd cn cs L a ccd cl outer) (call (.ref f) vs) Q E s :=
  C dp un gd cn cs a ccd cl outer A₀ base h₀ L m s Q E B F X N T hk hp hdp hu ret
end Mine

namespace Mine
open PySem.Calls PyProof.V PySem.Spec Builtin
set_option maxRecDepth 100000
local macro_rules | `(tactic| walk_at "compareOp In bytes bytes") => `(tactic| (k_here; (with_reducible show wpAny _ _ (compareOp CmpOp.In (Value.bytes _ _) (Value.bytes _ _)) _ _ _); k_dflt (refine' in_K ?mF ?mN ?mh ?_; (case mF => k_asm); (case mN => k_asm); (case mh => exact rfl)); intro _ _ F' N'; (try k_sweep)))
local macro_rules | `(tactic| walk_at "compareOp NotIn bytes bytes") => `(tactic| (k_here; (with_reducible show wpAny _ _ (compareOp CmpOp.NotIn (Value.bytes _ _) (Value.bytes _ _)) _ _ _); k_dflt (refine' notIn_K ?mF ?mN ?mh ?_; (case mF => k_asm); (case mN => k_asm); (case mh => exact rfl)); intro _ _ F' N'; (try k_sweep)))
local macro_rules | `(tactic| walk_at "subscriptTail") => `(tactic| (k_here; (with_reducible show wpAny _ _ (subscriptTail _ (Expr.Slice _ _ none _) (Value.bytes _ _) (Value.ref _)) _ _ _); (with_reducible rename Fr _ _ _ _ => F'); (with_reducible rename News _ _ _ _ => N'); (refine slice_B (s := ⟨_, _, _, _, _⟩) F' N' (by constructor) (by constructor) (by first | assumption | omega) ?_); intro _ _ _ F' N'))
local macro_rules | `(tactic| walk_at "getMethod bytes") => `(tactic| (k_here; (with_reducible first | refine m_join ?_ | refine m_replace ?_ | refine m_split ?_ | refine m_endswith ?_)))
local macro_rules | `(tactic| walk_at "call builtin:bytes.endswith") => `(tactic| (k_here; refine endswith_K ?_))
local macro_rules | `(tactic| walk_at "call builtin:bytes.split") => `(tactic| (k_here; k_dflt (refine' split_K ?mF ?mN ?mo ?mz ?mn ?_; (case mF => k_asm); (case mN => k_asm); (case mo => rfl); (case mz => exact fun p hp => Nat.le_trans (rows_size _ p hp) (by rw [sizeLine_eq]; omega)); (case mn => exact Nat.le_trans (rows_len _) (by rw [sizeLine_eq]; omega))); intro l' h' vs' _ F' N' l1 hBA'; (try k_lt l1); (try k_sweep)))
local macro_rules | `(tactic| walk_at "subscriptTail") => `(tactic| (k_here; (with_reducible show wpAny _ _ (subscriptTail _ (Expr.Slice none (some _) none _) (Value.ref _) (Value.ref _)) _ _ _); (with_reducible rename Fr _ _ _ _ => F'); (with_reducible rename News _ _ _ _ => N'); (with_reducible rename BA _ _ => hBA'); (refine slice_init (s := ⟨_, _, _, _, _⟩) F' N' (by k_mem) hBA' (Nat.le_trans (rows_len _) (by omega)) ?_); intro D' ws' h' F' N' l1 hBA'; (try k_lt l1); (try k_sweep)))
local macro_rules | `(tactic| walk_at "subscriptTail") => `(tactic| (k_here; (with_reducible show wpAny _ _ (subscriptTail _ (Expr.Slice (some _) none none _) (Value.ref _) (Value.ref _)) _ _ _); (with_reducible rename Fr _ _ _ _ => F'); (with_reducible rename News _ _ _ _ => N'); (refine slice_last (s := ⟨_, _, _, _, _⟩) F' N' (by k_mem) (by assumption) (Nat.le_trans (rows_len _) (by omega)) ?_); intro D' ws' h' F' N' l1 hBA'; (try k_lt l1); (try k_sweep)))
local macro_rules | `(tactic| walk_at "eval ListComp") => `(tactic| (k_here; (with_reducible rename BA _ _ => hBA'); k_dflt (refine LCg.ListComp_U (F₀ := by k_asm) (by with_unfolding_all rfl) (by decide) (by rfl) (by decide) (by rfl) ?_)))
local macro_rules | `(tactic| walk_at "CompSrc") => `(tactic| (k_here; (with_reducible rename BA _ _ => hBA'); k_dflt (refine LCg.CompSrc.ledger (by rfl) (by k_asm) (by k_asm) (by k_mem) (by rw [List.size_toArray, hBA'.length, sizeLine_eq, List.length_dropLast]; exact Nat.le_trans (Nat.sub_le _ _) (Nat.le_trans (rows_len _) (by omega))) ?_; intro g'; (refine' kcb_list chopB hBA' (fun p' t' I' oI' C' oC' D' m' ys' h' tk' E' hk' hC' hx' F' N' off' ne' => (Mine.withSize (Nat.le_trans (rows_size _ p' (List.dropLast_subset _ hk')) (by omega)) (fun hps' => ?_))) (fun ys' hBA' => ?_)); (all_goals (try (simp only [LCg.Off3, and_true] at off'))); (all_goals (try k_fold)))))
local macro_rules | `(tactic| walk_at "CompEnd") => `(tactic| (refine LCg.CompEnd.intro (by assumption) (by assumption) _ (fun _ hp => hp) (by first | assumption | (simp only [LCg.Off3, and_true]; assumption)) (by lcg_src) (el_of ?_); first | exact chop_pos (by assumption) | exact chop_neg (by assumption) | exact chop_neg (ne_true_of_eq_false (by assumption))))
local macro_rules | `(tactic| walk_at "binaryOp Add ref ref") => `(tactic| (k_here; (with_reducible show wpAny _ _ (binaryOp _ (Value.ref _) (Value.ref _)) _ _ _); k_dflt (refine' add_BA ?F ?N ?a ?b ?i ?j ?z ?_; (case F => k_asm); (case N => k_asm); (case a => k_mem); (case b => k_mem); (case i => assumption); (case j => assumption); (case z => exact sum_len _ (by omega))); intro D' us' h' F' N' l1 hBA'; (try k_lt l1); (try k_sweep)))
local macro_rules | `(tactic| walk_at "call builtin:bytes.join") => `(tactic| (k_here; k_dflt (first | refine' join_down ?l ?b ?z ?_ | refine' join_up ?l ?b ?z ?_); (case l => exact News.isList (by k_asm) (by k_mem)); (case b => assumption); (case z => omega); intro _ _))
local macro_rules | `(tactic| walk_at "call builtin:bytes.replace") => `(tactic| (k_here; k_dflt (refine' replace_down ?z ?_; (case z => omega)); intro _ _))
local macro_rules | `(tactic| walk_at "compareOp In bytes ref") => `(tactic| (k_here; (with_reducible show wpAny _ _ (compareOp CmpOp.In (Value.bytes _ _) (Value.ref _)) _ _ _); k_dflt (refine' in_tup2 ?mN ?mm ?_; (case mN => k_asm); (case mm => k_mem))))
local macro_rules | `(tactic| walk_at "call builtin:bytes.decode") => `(tactic| (k_here; (refine decode_p ?_); intro _ _))
local macro_rules | `(tactic| walk_at "no such key") => `(tactic| fail "no such key")
set_option maxHeartbeats 4000000 in
theorem c_down (w : World) (p : Program) (loose : List Str) (mean : ExcName → Option Value) (mg mb : Str → Option Value) (news : List (Addr × Obj)) (b : Array UInt8) (t : Tok) :
    CR 1 w p loose mean mg mb 101 news (b.size ≤ 100000) [.bytes b t] (fun t => .bytes (downB b) t) := by
  unfold CR
  k_fill
  w_top off
  intro dp un gd cn cs a ccd cl outer A₀ base h₀ L m s Q E B F X N T hk hz hdp hu hret
  have hz' : b.size ≤ 16777216 := by omega
  refine wpAny_call ?_
  k_dflt cell_enter
  k_steps
  all_goals exact hret _ _ _ (by assumption) (cb_drop (by assumption) (fun p hp => by repeat (first | assumption | apply List.mem_cons_of_mem)))

set_option maxHeartbeats 4000000 in
theorem c_up (w : World) (p : Program) (loose : List Str) (mean : ExcName → Option Value) (mg mb : Str → Option Value) (news : List (Addr × Obj)) (b : Array UInt8) (t : Tok) :
    CR 1 w p loose mean mg mb 106 news (b.size ≤ 100000) [.bytes b t] (fun t => .bytes (upB b) t) := by
  unfold CR
  k_fill
  w_top off
  intro dp un gd cn cs a ccd cl outer A₀ base h₀ L m s Q E B F X N T hk hz hdp hu hret
  have hz' : b.size ≤ 16777216 := by omega
  refine wpAny_call ?_
  k_dflt cell_enter
  k_steps
  all_goals exact hret _ _ _ (by assumption) (cb_drop (by assumption) (fun p hp => by repeat (first | assumption | apply List.mem_cons_of_mem)))
end Mine

namespace Mine
open PySem.Calls PyProof.V PySem.Spec Builtin
set_option maxRecDepth 100000
local macro_rules | `(tactic| walk_at "compareOp In bytes bytes") => `(tactic| (k_here; (with_reducible show wpAny _ _ (compareOp CmpOp.In (Value.bytes _ _) (Value.bytes _ _)) _ _ _); k_dflt (refine' in_K ?mF ?mN ?mh ?_; (case mF => k_asm); (case mN => k_asm); (case mh => exact rfl)); intro _ _ F' N'; (try k_sweep)))
local macro_rules | `(tactic| walk_at "compareOp NotIn bytes bytes") => `(tactic| (k_here; (with_reducible show wpAny _ _ (compareOp CmpOp.NotIn (Value.bytes _ _) (Value.bytes _ _)) _ _ _); k_dflt (refine' notIn_K ?mF ?mN ?mh ?_; (case mF => k_asm); (case mN => k_asm); (case mh => exact rfl)); intro _ _ F' N'; (try k_sweep)))
local macro_rules | `(tactic| walk_at "subscriptTail") => `(tactic| (k_here; (with_reducible show wpAny _ _ (subscriptTail _ (Expr.Slice _ _ none _) (Value.bytes _ _) (Value.ref _)) _ _ _); (with_reducible rename Fr _ _ _ _ => F'); (with_reducible rename News _ _ _ _ => N'); (refine slice_B (s := ⟨_, _, _, _, _⟩) F' N' (by constructor) (by constructor) (by first | assumption | omega) ?_); intro _ _ _ F' N'))
local macro_rules | `(tactic| walk_at "getMethod bytes") => `(tactic| (k_here; (with_reducible first | refine m_join ?_ | refine m_replace ?_ | refine m_split ?_ | refine m_endswith ?_)))
local macro_rules | `(tactic| walk_at "call builtin:bytes.endswith") => `(tactic| (k_here; refine endswith_K ?_))
local macro_rules | `(tactic| walk_at "call builtin:bytes.split") => `(tactic| (k_here; k_dflt (refine' split_K ?mF ?mN ?mo ?mz ?mn ?_; (case mF => k_asm); (case mN => k_asm); (case mo => rfl); (case mz => exact fun p hp => Nat.le_trans (rows_size _ p hp) (by rw [sizeLine_eq]; omega)); (case mn => exact Nat.le_trans (rows_len _) (by rw [sizeLine_eq]; omega))); intro l' h' vs' _ F' N' l1 hBA'; (try k_lt l1); (try k_sweep)))
local macro_rules | `(tactic| walk_at "subscriptTail") => `(tactic| (k_here; (with_reducible show wpAny _ _ (subscriptTail _ (Expr.Slice none (some _) none _) (Value.ref _) (Value.ref _)) _ _ _); (with_reducible rename Fr _ _ _ _ => F'); (with_reducible rename News _ _ _ _ => N'); (with_reducible rename BA _ _ => hBA'); (refine slice_init (s := ⟨_, _, _, _, _⟩) F' N' (by k_mem) hBA' (Nat.le_trans (rows_len _) (by omega)) ?_); intro D' ws' h' F' N' l1 hBA'; (try k_lt l1); (try k_sweep)))
local macro_rules | `(tactic| walk_at "subscriptTail") => `(tactic| (k_here; (with_reducible show wpAny _ _ (subscriptTail _ (Expr.Slice (some _) none none _) (Value.ref _) (Value.ref _)) _ _ _); (with_reducible rename Fr _ _ _ _ => F'); (with_reducible rename News _ _ _ _ => N'); (refine slice_last (s := ⟨_, _, _, _, _⟩) F' N' (by k_mem) (by assumption) (Nat.le_trans (rows_len _) (by omega)) ?_); intro D' ws' h' F' N' l1 hBA'; (try k_lt l1); (try k_sweep)))
local macro_rules | `(tactic| walk_at "eval ListComp") => `(tactic| (k_here; (with_reducible rename BA _ _ => hBA'); k_dflt (refine LCg.ListComp_U (F₀ := by k_asm) (by with_unfolding_all rfl) (by decide) (by rfl) (by decide) (by rfl) ?_)))
local macro_rules | `(tactic| walk_at "CompSrc") => `(tactic| (k_here; (with_reducible rename BA _ _ => hBA'); k_dflt (refine LCg.CompSrc.ledger (by rfl) (by k_asm) (by k_asm) (by k_mem) (by rw [List.size_toArray, hBA'.length, sizeLine_eq, List.length_dropLast]; exact Nat.le_trans (Nat.sub_le _ _) (Nat.le_trans (rows_len _) (by omega))) ?_; intro g'; (refine' kcb_list chopB hBA' (fun p' t' I' oI' C' oC' D' m' ys' h' tk' E' hk' hC' hx' F' N' off' ne' => (Mine.withSize (Nat.le_trans (rows_size _ p' (List.dropLast_subset _ hk')) (by omega)) (fun hps' => ?_))) (fun ys' hBA' => ?_)); (all_goals (try (simp only [LCg.Off3, and_true] at off'))); (all_goals (try k_fold)))))
local macro_rules | `(tactic| walk_at "CompEnd") => `(tactic| (refine LCg.CompEnd.intro (by assumption) (by assumption) _ (fun _ hp => hp) (by first | assumption | (simp only [LCg.Off3, and_true]; assumption)) (by lcg_src) (el_of ?_); first | exact chop_pos (by assumption) | exact chop_neg (by assumption) | exact chop_neg (ne_true_of_eq_false (by assumption))))
local macro_rules | `(tactic| walk_at "binaryOp Add ref ref") => `(tactic| (k_here; (with_reducible show wpAny _ _ (binaryOp _ (Value.ref _) (Value.ref _)) _ _ _); k_dflt (refine' add_BA ?F ?N ?a ?b ?i ?j ?z ?_; (case F => k_asm); (case N => k_asm); (case a => k_mem); (case b => k_mem); (case i => assumption); (case j => assumption); (case z => exact sum_len _ (by omega))); intro D' us' h' F' N' l1 hBA'; (try k_lt l1); (try k_sweep)))
local macro_rules | `(tactic| walk_at "call builtin:bytes.join") => `(tactic| (k_here; k_dflt (first | refine' join_down ?l ?b ?z ?_ | refine' join_up ?l ?b ?z ?_); (case l => exact News.isList (by k_asm) (by k_mem)); (case b => assumption); (case z => omega); intro _ _))
local macro_rules | `(tactic| walk_at "call builtin:bytes.replace") => `(tactic| (k_here; k_dflt (refine' replace_down ?z ?_; (case z => omega)); intro _ _))
local macro_rules | `(tactic| walk_at "compareOp In bytes ref") => `(tactic| (k_here; (with_reducible show wpAny _ _ (compareOp CmpOp.In (Value.bytes _ _) (Value.ref _)) _ _ _); k_dflt (refine' in_tup2 ?mN ?mm ?_; (case mN => k_asm); (case mm => k_mem))))
local macro_rules | `(tactic| walk_at "call builtin:bytes.decode") => `(tactic| (k_here; (refine decode_p ?_); intro _ _))
set_option maxHeartbeats 4000000 in
theorem c_crlf (w : World) (p : Program) (loose : List Str) (mean : ExcName → Option Value) (mg mb : Str → Option Value) (news : List (Addr × Obj)) (b : Array UInt8) (t : Tok) :
    CR 1 w p loose mean mg mb 73 news (b.size ≤ 100000) [.bytes b t] (fun t => .bytes (downB b) t) := by
  unfold CR
  k_fill
  w_top off
  intro dp un gd cn cs a ccd cl outer A₀ base h₀ L m s Q E B F X N T hk hz hdp hu hret
  have hz' : b.size ≤ 16777216 := by omega
  refine wpAny_call ?_
  k_dflt cell_enter
  k_steps
  all_goals exact hret _ _ _ (by assumption) (cb_drop (by assumption) (fun p hp => by repeat (first | assumption | apply List.mem_cons_of_mem)))
end Mine

namespace Mine
open PySem.Calls PyProof.V PySem.Spec Builtin
set_option maxRecDepth 100000
local macro_rules | `(tactic| walk_at "compareOp In bytes bytes") => `(tactic| (k_here; (with_reducible show wpAny _ _ (compareOp CmpOp.In (Value.bytes _ _) (Value.bytes _ _)) _ _ _); k_dflt (refine' in_K ?mF ?mN ?mh ?_; (case mF => k_asm); (case mN => k_asm); (case mh => exact rfl)); intro _ _ F' N'; (try k_sweep)))
local macro_rules | `(tactic| walk_at "compareOp NotIn bytes bytes") => `(tactic| (k_here; (with_reducible show wpAny _ _ (compareOp CmpOp.NotIn (Value.bytes _ _) (Value.bytes _ _)) _ _ _); k_dflt (refine' notIn_K ?mF ?mN ?mh ?_; (case mF => k_asm); (case mN => k_asm); (case mh => exact rfl)); intro _ _ F' N'; (try k_sweep)))
local macro_rules | `(tactic| walk_at "subscriptTail") => `(tactic| (k_here; (with_reducible show wpAny _ _ (subscriptTail _ (Expr.Slice _ _ none _) (Value.bytes _ _) (Value.ref _)) _ _ _); (with_reducible rename Fr _ _ _ _ => F'); (with_reducible rename News _ _ _ _ => N'); (refine slice_B (s := ⟨_, _, _, _, _⟩) F' N' (by constructor) (by constructor) (by first | assumption | omega) ?_); intro _ _ _ F' N'))
local macro_rules | `(tactic| walk_at "getMethod bytes") => `(tactic| (k_here; (with_reducible first | refine m_join ?_ | refine m_replace ?_ | refine m_split ?_ | refine m_endswith ?_)))
local macro_rules | `(tactic| walk_at "call builtin:bytes.endswith") => `(tactic| (k_here; refine endswith_K ?_))
local macro_rules | `(tactic| walk_at "call builtin:bytes.split") => `(tactic| (k_here; k_dflt (refine' split_K ?mF ?mN ?mo ?mz ?mn ?_; (case mF => k_asm); (case mN => k_asm); (case mo => rfl); (case mz => exact fun p hp => Nat.le_trans (rows_size _ p hp) (by rw [sizeLine_eq]; omega)); (case mn => exact Nat.le_trans (rows_len _) (by rw [sizeLine_eq]; omega))); intro l' h' vs' _ F' N' l1 hBA'; (try k_lt l1); (try k_sweep)))
local macro_rules | `(tactic| walk_at "subscriptTail") => `(tactic| (k_here; (with_reducible show wpAny _ _ (subscriptTail _ (Expr.Slice none (some _) none _) (Value.ref _) (Value.ref _)) _ _ _); (with_reducible rename Fr _ _ _ _ => F'); (with_reducible rename News _ _ _ _ => N'); (with_reducible rename BA _ _ => hBA'); (refine slice_init (s := ⟨_, _, _, _, _⟩) F' N' (by k_mem) hBA' (Nat.le_trans (rows_len _) (by omega)) ?_); intro D' ws' h' F' N' l1 hBA'; (try k_lt l1); (try k_sweep)))
local macro_rules | `(tactic| walk_at "subscriptTail") => `(tactic| (k_here; (with_reducible show wpAny _ _ (subscriptTail _ (Expr.Slice (some _) none none _) (Value.ref _) (Value.ref _)) _ _ _); (with_reducible rename Fr _ _ _ _ => F'); (with_reducible rename News _ _ _ _ => N'); (refine slice_last (s := ⟨_, _, _, _, _⟩) F' N' (by k_mem) (by assumption) (Nat.le_trans (rows_len _) (by omega)) ?_); intro D' ws' h' F' N' l1 hBA'; (try k_lt l1); (try k_sweep)))
local macro_rules | `(tactic| walk_at "eval ListComp") => `(tactic| (k_here; (with_reducible rename BA _ _ => hBA'); k_dflt (refine LCg.ListComp_U (F₀ := by k_asm) (by with_unfolding_all rfl) (by decide) (by rfl) (by decide) (by rfl) ?_)))
local macro_rules | `(tactic| walk_at "CompSrc") => `(tactic| (k_here; (with_reducible rename BA _ _ => hBA'); k_dflt (refine LCg.CompSrc.ledger (by rfl) (by k_asm) (by k_asm) (by k_mem) (by rw [List.size_toArray, hBA'.length, sizeLine_eq, List.length_dropLast]; exact Nat.le_trans (Nat.sub_le _ _) (Nat.le_trans (rows_len _) (by omega))) ?_; intro g'; (refine' kcb_list chopB hBA' (fun p' t' I' oI' C' oC' D' m' ys' h' tk' E' hk' hC' hx' F' N' off' ne' => (Mine.withSize (Nat.le_trans (rows_size _ p' (List.dropLast_subset _ hk')) (by omega)) (fun hps' => ?_))) (fun ys' hBA' => ?_)); (all_goals (try (simp only [LCg.Off3, and_true] at off'))); (all_goals (try k_fold)))))
local macro_rules | `(tactic| walk_at "CompEnd") => `(tactic| (refine LCg.CompEnd.intro (by assumption) (by assumption) _ (fun _ hp => hp) (by first | assumption | (simp only [LCg.Off3, and_true]; assumption)) (by lcg_src) (el_of ?_); first | exact chop_pos (by assumption) | exact chop_neg (by assumption) | exact chop_neg (ne_true_of_eq_false (by assumption))))
local macro_rules | `(tactic| walk_at "binaryOp Add ref ref") => `(tactic| (k_here; (with_reducible show wpAny _ _ (binaryOp _ (Value.ref _) (Value.ref _)) _ _ _); k_dflt (refine' add_BA ?F ?N ?a ?b ?i ?j ?z ?_; (case F => k_asm); (case N => k_asm); (case a => k_mem); (case b => k_mem); (case i => assumption); (case j => assumption); (case z => exact sum_len _ (by omega))); intro D' us' h' F' N' l1 hBA'; (try k_lt l1); (try k_sweep)))
local macro_rules | `(tactic| walk_at "call builtin:bytes.join") => `(tactic| (k_here; k_dflt (first | refine' join_down ?l ?b ?z ?_ | refine' join_up ?l ?b ?z ?_); (case l => exact News.isList (by k_asm) (by k_mem)); (case b => assumption); (case z => omega); intro _ _))
local macro_rules | `(tactic| walk_at "call builtin:bytes.replace") => `(tactic| (k_here; k_dflt (refine' replace_down ?z ?_; (case z => omega)); intro _ _))
local macro_rules | `(tactic| walk_at "compareOp In bytes ref") => `(tactic| (k_here; (with_reducible show wpAny _ _ (compareOp CmpOp.In (Value.bytes _ _) (Value.ref _)) _ _ _); k_dflt (refine' in_tup2 ?mN ?mm ?_; (case mN => k_asm); (case mm => k_mem))))
local macro_rules | `(tactic| walk_at "call builtin:bytes.decode") => `(tactic| (k_here; (refine decode_p ?_); intro _ _))
local macro_rules | `(tactic| walk_at "exec For Tuple Call cons nil") => `(tactic| (k_here; (rename Fr _ _ _ _ => lF'); (with_unfolding_all refine' For_turns lF' ?_; k_whole)))
local macro_rules | `(tactic| walk_at "call builtin:len") => `(tactic| (k_here; (with_reducible show wpAny _ _ (call (Value.builtin "len") [Value.ref _]) _ _ _); k_dflt (refine' len_BA ?N ?m ?b ?z ?_; (case N => k_asm); (case m => k_mem); (case b => assumption); (case z => exact Nat.le_trans (rows_len _) (by omega))); intro _ _))
local macro_rules | `(tactic| walk_at "call builtin:list.append") => `(tactic| (k_here; (with_reducible show wpAny _ _ (call (Value.builtin _) [Value.ref _, _]) _ _ _); k_dflt (refine' append_E ?k1 ?k2 ?k3 ?k4 ?k5 ?k6 ?_; (case k1 => k_asm); (case k2 => k_asm); (case k3 => assumption); (case k4 => assumption); (case k5 => assumption); (case k6 => omega)); intro h' _ F' N'; (try k_sweep)))
set_option maxHeartbeats 4000000 in
theorem c_lf (w : World) (p : Program) (loose : List Str) (mean : ExcName → Option Value) (mg mb : Str → Option Value) (news : List (Addr × Obj)) (b : Array UInt8) (t : Tok) :
    CR 1 w p loose mean mg mb 80 news (b.size ≤ 100000) [.bytes b t] (fun t => .bytes (upB b) t) := by
  unfold CR
  k_fill
  w_top off
  intro dp un gd cn cs a ccd cl outer A₀ base h₀ L m s Q E B F X N T hk hz hdp hu hret
  have hz' : b.size ≤ 16777216 := by omega
  refine wpAny_call ?_
  k_dflt cell_enter
  k_steps
  rename News _ _ _ _ => N1
  rename BA _ _ => hb1
  rename Fr _ _ _ (fun _ => _) => F1
  rename (_ ∧ AllLt _ _) => hDl
  have hlD := hDl.1
  have hnD := allLt_mem hDl.2
  have hrl := rows_len b
  have hrl' := hb1.length
  with_unfolding_all refine' lf_enum (lfG (rowsB b #[10]).length) (Str.ofString "part") (Str.ofString "i") ?hh ?hF ?hN hb1 ?hst ?hdn
  case hh => rfl
  case hF => exact F1
  case hN => exact N1
  case hst =>
    intro I hID hIl hIn i p t a b' us n R hlt hp hul hR T t' h tk hT F' o1 o2 ho1 ho2 N'
    have hps : p.size ≤ 16777216 := Nat.le_trans (rows_size _ p (List.mem_of_getElem? hp)) (by omega)
    k_steps
    all_goals refine unr_end (by assumption) (by assumption) hID hIl hIn ?_
    all_goals first
      | (have e := lfG_yes (N := (rowsB b #[10]).length) (i := i) (p := p) (by omega) (by assumption); rw [e] at hR; exact hR _ _ _ (fun z h1 h2 => by simp only [h1, h2, if_false]))
      | (have e := lfG_no2 (N := (rowsB b #[10]).length) (i := i) (p := p) (by assumption); rw [e] at hR; exact hR _ _ _ (fun z h1 h2 => by simp only [h1, h2, if_false]))
      | (have e := lfG_no1 (N := (rowsB b #[10]).length) (i := i) (p := p) (by omega); rw [e] at hR; exact hR _ _ _ (fun z h1 h2 => by simp only [h1, h2, if_false]))
  case hdn =>
    intro us n a b' h tk hBA' F' N'
    rw [lf_outs] at hBA'
    k_steps
    all_goals exact hret _ _ _ (by assumption) (cb_drop (by assumption) (fun p hp => by repeat (first | assumption | apply List.mem_cons_of_mem)))
end Mine

namespace Mine
open PySem.Calls PyProof.V PySem.Spec Builtin
set_option maxRecDepth 100000

theorem eqg_bytes (x y : Array UInt8) (t u : Tok) : MeetsSeq.EqGives (.bytes x t) (.bytes y u) (x.toList == y.toList) := by
  intro prog w A E s Q h
  unfold eqBool
  refine wpAny_holding ?_
  refine wpAny_ite_split (fun hab => ?_) (fun hab => ?_)
  · have e : x = y := by have := eq_of_beq hab; injection this
    subst e
    exact wpAny_bind (wpAny_rule (wpAny_pure (by simpa using h)))
  · exact wpAny_bind (richCompare_gives (typeIs_b s x t) (typeIs_b s y u) FB.slot_bytes_eq FB.entry_bytes_eq (FB.args_bytes_eq_2 _ _) (gives_bytes_eq x y t u) (by simp [Made.takes]) (wpAny_truthy_bool h))

def sameB (x : Array UInt8) : Value → Bool
  | .bytes y _ => y.toList == x.toList
  | _ => false
section
variable {prog : Program} {w : World} {A : Around} {E : Value → Shared → Prop} {s : Shared} {h₀ : Heap} {L l : Addr} {m : PySem.Str → Option Value} {news : List (Addr × Obj)} {Q : Value → Shared → Prop}
theorem in_tup2 {p q x : Array UInt8} {t1 t2 u : Tok} {n : Nat} (N : News h₀ L s.heap news) (hm : (l, ({ cls := .type "tuple", data := .seq [Value.bytes p t1, Value.bytes q t2].toArray n } : Obj)) ∈ news)
    (h : Q (.bool (p.toList == x.toList || q.toList == x.toList)) s) : wpAny (model prog w) A (compareOp .In (.bytes x u) (.ref l)) Q E s := by
  refine SeqRoads2.in_tuple (sameB x) (fun y hy => ?_) (N _ hm).1 (by simpa [sameB] using h)
  have hy' : y = .bytes p t1 ∨ y = .bytes q t2 := by simpa using hy
  rcases hy' with rfl | rfl
  · exact eqg_bytes p x t1 u
  · exact eqg_bytes q x t2 u
end
end Mine

namespace Mine
open PySem.Calls PyProof.V PySem.Spec Builtin
set_option maxRecDepth 100000

theorem args_decode_3 (a b c : Value) : argsOk "bytes.decode" ⟨[a, b, c], []⟩ := by
  unfold argsOk; rw [signature?_of (id := "bytes.decode") (n := ['e', 'd', 'o', 'c', 'e', 'd']) (o := ['s', 'e', 't', 'y', 'b']) (by kernel_rfl) FB.owner_bytes]; kernel_rfl
theorem run_p (id : String) : _codecs.runDecoder id _codecs.utf8Decoder (some (Str.ofString "replace")) true #[112] 0 [] = pure ((Str.ofString "p").cps, 1) := by kernel_rfl
theorem road_p (id : String) : _codecs.decodeRoad id #[112] (Str.ofString "utf-8") (some (Str.ofString "replace")) [] = mkStr ⟨(Str.ofString "p").cps⟩ := by
  have e : _codecs.decodeRoad id #[112] (Str.ofString "utf-8") (some (Str.ofString "replace")) [] = (_codecs.runDecoder id _codecs.utf8Decoder (some (Str.ofString "replace")) true #[112] 0 [] >>= fun r => mkStr ⟨r.1⟩) := by kernel_rfl
  rw [e, run_p]; rfl
theorem meets_text_p {t t1 t2 t3 : Tok} {d : PySem.Str} :
    Meets («_codecs.decode.text» ⟨[.bytes #[112] t, .str (PySem.Str.ofString "utf-8") t1, .str (PySem.Str.ofString "replace") t2, .str d t3], []⟩) (fun _ R s => R (.ok (.ret (.str ⟨(Str.ofString "p").cps⟩ s.toks))) { s with toks := s.toks + 1 }) := by
  refine .of_wp fun prog w A R s h => ?_
  show wpAny _ _ (Bytes.bytesLike _ (.bytes #[112] t) >>= fun r => _) _ _ s
  refine wpAny_bind (wpAny_of_eq KBd.like_eq ?_)
  refine wpAny_bind (wpAny_of_eq KBd.held_eq ?_)
  show wpAny _ _ (_codecs.decodeRoad _ #[112] (PySem.Str.ofString "utf-8") (some (PySem.Str.ofString "replace")) [] >>= fun v => _) _ _ s
  rw [road_p]
  exact wpAny_bind (wpAny_mkStr (wpAny_pure ⟨_, rfl, h⟩) (by decide +kernel))
theorem dec_eq (t u v : Tok) : «bytes.decode» ⟨[.bytes #[112] t, .str (Str.ofString "utf-8") u, .str (Str.ofString "replace") v], []⟩ = (mkStr (PySem.Str.ofString "utf-8") >>= fun _ => mkStr (PySem.Str.ofString "utf-8") >>= fun e => mkStr (PySem.Str.ofString "replace") >>= fun r => mkStr (PySem.Str.ofString "bytes.decode") >>= fun d =>
    call (.builtin "_codecs.decode.text") [.bytes #[112] t, e, r, d] >>= fun v => ret v) := by kernel_rfl
theorem meets_decode_p (t u v : Tok) :
    Meets («bytes.decode» ⟨[.bytes #[112] t, .str (Str.ofString "utf-8") u, .str (Str.ofString "replace") v], []⟩) (fun _ R s => ∀ t' k, R (.ok (.ret (.str (Str.ofString "p") t'))) { s with toks := k }) := by
  refine .of_wp fun prog w A R s h => ?_
  rw [dec_eq]
  refine wpAny_bind (wpAny_mkStr ?_ (by decide +kernel))
  refine wpAny_bind (wpAny_mkStr ?_ (by decide +kernel))
  refine wpAny_bind (wpAny_mkStr ?_ (by decide +kernel))
  refine wpAny_bind (wpAny_mkStr ?_ (by decide +kernel))
  exact wpAny_bind (call_function_meets KBd.kind_text KBd.plain_text KBd.entry_text (KBd.args_text _ _ _ _) meets_text_p (wpAny_pure ⟨_, rfl, h _ _⟩))
section
variable {prog : Program} {w : World} {A : Around} {E : Value → Shared → Prop} {s : Shared} {t u v : Tok} {Q : Value → Shared → Prop}
theorem decode_p (h : ∀ t' k, Q (.str (Str.ofString "p") t') { s with toks := k }) :
    wpAny (model prog w) A (call (.builtin "bytes.decode") [.bytes #[112] t, .str (Str.ofString "utf-8") u, .str (Str.ofString "replace") v]) Q E s :=
  call_meets FB.slot_bytes_decode (typeIs_b _ _ _) FB.entry_bytes_decode (args_decode_3 _ _ _) (meets_decode_p t u v) h
end
end Mine

namespace Mine
open PySem.Calls PyProof.V PySem.Spec Builtin
set_option maxRecDepth 100000

def Halt (P : Prop) : Prop := P
theorem Halt.out {P : Prop} (h : Halt P) : P := h
theorem Halt.go {P : Prop} (h : P) : Halt P := h
/-- stands in the context where the law's own halts are wanted -/
structure Mark : Prop where

def DrawOK (prog : Program) (w : World) (A : Around) (h₀ : Heap) (L f : Addr) (e1 e2 e3 e4 : Addr × Obj) : Prop :=
  ∀ (place most : Int) (tp tm : Tok) (s : Shared) (m₂ : Str → Option Value) (news₂ : List (Addr × Obj)) (Q E : Value → Shared → Prop),
    Fr h₀ L s.heap m₂ → News h₀ L s.heap news₂ → e1 ∈ news₂ → e2 ∈ news₂ → e3 ∈ news₂ → e4 ∈ news₂ → 0 ≤ place → place < 1000 → 1 ≤ most → most < 1000 →
    (∀ v t h' k, 0 ≤ v → v < most → Fr h₀ L h' m₂ → News h₀ L h' news₂ → Q (.int v t) { s with heap := h', toks := k }) →
    wpAny (model prog w) A (call (.ref f) [.int place tp, .int most tm]) Q E s
theorem with_draw {prog : Program} {w : World} {A : Around} {h₀ h : Heap} {L f : Addr} {obj : Obj} {e2 e3 e4 e5 : Addr × Obj} {news : List (Addr × Obj)} {α : Type} {t : Sem α} {Q : α → Shared → Prop} {E : Value → Shared → Prop} {s : Shared} (_N : News h₀ L h ((f, obj) :: e2 :: e3 :: e4 :: e5 :: news))
    (hd : DrawOK prog w A h₀ L f (f, obj) e2 e3 e5) (k : DrawOK prog w A h₀ L f (f, obj) e2 e3 e5 → wpAny (model prog w) A t Q E s) : wpAny (model prog w) A t Q E s := k hd

section
variable {prog : Program} {w : World} {A : Around} {E : Value → Shared → Prop} {s : Shared} {h₀ : Heap} {L l : Addr} {m : PySem.Str → Option Value} {news : List (Addr × Obj)} {vs : List Value} {ns : List Int} {Q : Value → Shared → Prop}
theorem item_M {value slice : PySem.Expr} {i : Int} {u : Tok} {n : Nat} (N : News h₀ L s.heap news) (hm : (l, ({ cls := .type "list", data := .seq vs.toArray n } : Obj)) ∈ news) (hi : IntsAre vs ns) (h0 : 0 ≤ i) (h1 : i < (ns.length : Int)) (hz : ns.length ≤ 1000000)
    (h : ∀ t, Q (.int (ns.getD i.toNat 0) t) s)
    (hs : subscripted slice false (.ref l) (.int i u) = operate [.ref l, .int i u] (getItem (.ref l) (.int i u)) := by with_unfolding_all rfl) (hg : ∀ r, letTemporaryGo value (.ref l) r = pure () := by intro _; with_unfolding_all rfl) :
    wpAny (model prog w) A (subscriptTail value slice (.ref l) (.int i u)) Q E s := by
  have hlt : i.toNat < vs.length := by rw [hi.length]; omega
  obtain ⟨k, t, e, hk⟩ := IntsAre.at hi i.toNat _ (List.getElem?_eq_getElem hlt)
  have ek : ns.getD i.toNat 0 = k := by rw [List.getD_eq_getElem?_getD, hk]; rfl
  refine item_list (News.isList N hm) h0 (by omega) (by rw [List.getElem?_toArray]; exact List.getElem?_eq_getElem hlt) ?_ hs hg
  rw [e, ← ek]
  exact h t
theorem len_M {n : Nat} (N : News h₀ L s.heap news) (hm : (l, ({ cls := .type "list", data := .seq vs.toArray n } : Obj)) ∈ news) (hi : IntsAre vs ns) (hz : ns.length ≤ 1000000)
    (h : ∀ t k, Q (.int (ns.length : Int) t) { s with toks := k }) : wpAny (model prog w) A (call (.builtin "len") [.ref l]) Q E s := by
  have e : ((vs.toArray.size : Nat) : Int) = (ns.length : Int) := by rw [List.size_toArray, hi.length]
  refine Calls.call_len_list (News.isList N hm) (by rw [e]; omega) ?_
  rw [e]; exact h _ _
/-- an item of a written list at a bounded place: what all its items have -/
theorem item_P {value slice : PySem.Expr} {i : Int} {u : Tok} (P : Value → Prop) (hl : s.heap.IsList l vs.toArray) (hall : ∀ x ∈ vs, P x) (h0 : 0 ≤ i) (h1 : i < (vs.length : Int)) (hz : vs.length ≤ 1000000)
    (h : ∀ x, P x → Q x s)
    (hs : subscripted slice false (.ref l) (.int i u) = operate [.ref l, .int i u] (getItem (.ref l) (.int i u)) := by with_unfolding_all rfl) :
    wpAny (model prog w) A (subscriptTail value slice (.ref l) (.int i u)) Q E s := by
  have hlt : i.toNat < vs.length := by omega
  exact tail_any hl.typeIs slot_list_getitem.lookup (wpAny_getItem_list hl h0 (by omega) (by simpa using List.getElem?_eq_getElem hlt) (h _ (hall _ (List.getElem_mem hlt)))) hs
theorem join_any {sep : Array UInt8} {ps : List (Array UInt8)} {t : Tok} (hs : sep.size = 0) (hl : s.heap.IsList l vs.toArray) (hb : BA vs ps) (hn : ps.length ≤ 6) (hp : ∀ p ∈ ps, p.size ≤ 2)
    (h : ∀ d t' k, d.size ≤ 12 → Q (.bytes d t') { s with toks := k }) : wpAny (model prog w) A (call (.builtin "bytes.join") [.bytes sep t, .ref l]) Q E s := by
  have ht : ∀ qs : List (Array UInt8), (∀ p ∈ qs, p.size ≤ 2) → tot (qs.map Array.toList) ≤ 2 * qs.length := by
    intro qs
    induction qs with
    | nil => intro _; simp [tot]
    | cons q r ih =>
      intro hq
      have h1 := ih fun p hp => hq p (List.mem_cons_of_mem _ hp)
      have h2 := hq q List.mem_cons_self
      rw [List.map_cons, tot_cons, Array.length_toList, List.length_cons]
      omega
  have h1 := ht ps hp
  have h2 : (Bytes.joined sep ps).size ≤ 12 := by rw [joined_size, hs]; omega
  refine join_K hl hb ?_ ?_ (fun t' k => h _ t' k h2)
  · rw [fold_tot, hs, sizeLine_eq]; omega
  · rw [sizeLine_eq]; omega
end

section
variable {prog : Program} {w : World} {A : Around} {h₀ : Heap} {L : Addr} {m : Str → Option Value} {env : Env} {elt : Expr} {x : Str} {scope : Scope} {cl : List (Str × Addr)} {s : Shared} {S : List (Addr × Obj) → Prop} {P : Nat → Value → Prop} {Fin : List Value → List (Addr × Obj) → Prop} {news : List (Addr × Obj)}
theorem kcn_range {n : Nat} {a : Int}
    (turn : ∀ k t I oI C oC D m₂ ys h tk (E' : Value → Shared → Prop), a ≤ k → k < a + (n : Int) → LCg.NsObj oC m₂ → m₂ x = some (.int k t) → Fr h₀ L h m → News h₀ L h ((I, oI) :: (C, oC) :: (D, LCg.lst ys) :: news) → LCg.Off3 I C D news → ((@Ne Nat I C) ∧ (@Ne Nat I D) ∧ (@Ne Nat C D)) →
      wpAny (model prog w) A (eval elt (compEnvC scope cl C env)) (LCg.CompEnd h₀ L m { s with heap := h, toks := tk } I oI C oC D (LCg.lst ys) S (fun y news' => news' = news ∧ ∃ q t, q.size ≤ 2 ∧ y = Value.bytes q t)) E' { s with heap := h, toks := tk })
    (fin : ∀ ys ps, BA ys ps → ps.length = n → (∀ p ∈ ps, p.size ≤ 2) → Fin ys news) : LCg.CompRest prog w A h₀ L m env elt x scope cl s S (fun i v => ∃ t, v = .int (a + (i : Int)) t) Fin n 0 [] news := by
  have key : ∀ (j i : Nat) (ys : List Value) (ps : List (Array UInt8)), i + j = n → BA ys ps → ps.length = i → (∀ p ∈ ps, p.size ≤ 2) → LCg.CompRest prog w A h₀ L m env elt x scope cl s S (fun i v => ∃ t, v = .int (a + (i : Int)) t) Fin j i ys news := by
    intro j
    induction j with
    | zero =>
      intro i ys ps hi hy hl hp
      exact LCg.CompRest.zero (fin ys ps hy (by omega) hp)
    | succ j ih =>
      intro i ys ps hi hy hl hp
      refine LCg.CompRest.succ ?_
      intro v I oI C oC D m₂ h tk E' hv hC hx F N off ne
      obtain ⟨t, rfl⟩ := hv
      refine wpAny_mono (turn _ t I oI C oC D m₂ ys h tk E' (by omega) (by omega) hC hx F N off ne) (fun y s₂ hq => ?_) fun _ _ e => e
      obtain ⟨h', tk', nw, e, F', N', off', hS, hn, q, t', hq2, hy'⟩ := hq
      rw [hn] at N' off' hS
      refine ⟨h', tk', news, e, F', N', off', hS, ?_⟩
      rw [hy']
      refine ih (i + 1) _ (ps ++ [q]) (by omega) (hy.append (BA.one q t')) (by simp [hl]) ?_
      intro p hp'
      rcases List.mem_append.mp hp' with h1 | h1
      · exact hp p h1
      · rw [List.mem_singleton.mp h1]; exact hq2
  exact key n 0 [] [] (by omega) .nil rfl (fun p hp => nomatch hp)
theorem el_any {news : List (Addr × Obj)} {q : Array UInt8} {t : Tok} (e : q.size ≤ 2) : news = news ∧ ∃ q' t', q'.size ≤ 2 ∧ Value.bytes q t = Value.bytes q' t' := ⟨rfl, q, t, e, rfl⟩
end

section
variable {prog : Program} {w : World} {A : Around} {E : Value → Shared → Prop} {s : Shared} {Q : Value → Shared → Prop}
theorem rep_size (n : Nat) : ((List.replicate n [(120 : UInt8)]).flatten.toArray).size = n := by simp
theorem mul_x {t u : Tok} (h : ∀ d t' k, d.size ≤ 8000 → Q (.bytes d t') { s with toks := k }) : wpAny (model prog w) A (binaryOp .Mult (.bytes [120].toArray t) (.int 8000 u)) Q E s :=
  bytes_mul_any (b := [120]) (List.cons_ne_nil _ _) (by decide) (by decide) (by decide) fun t' k => h _ t' k (by rw [rep_size]; decide)
theorem add_B {b c : Array UInt8} {t u : Tok} (hsz : b.size + c.size ≤ 16777216) (h : ∀ d t' k, d.size = b.size + c.size → Q (.bytes d t') { s with toks := k }) : wpAny (model prog w) A (binaryOp .Add (.bytes b t) (.bytes c u)) Q E s :=
  KBy.add_bytes hsz fun t' k => h _ t' k Array.size_append
end
def CvIs (k : Int) (f g : Addr) (v : Value) : Prop := (k = 0 ∧ v = .none) ∨ (k = 1 ∧ v = .ref f) ∨ (k = 2 ∧ v = .ref g)
def IxIs (k : Int) (v : Value) : Prop := (k = 0 ∧ v = .ref 96) ∨ (k ≠ 0 ∧ v = .none)
theorem cv_two {k : Int} {f g : Addr} (h0 : 0 ≤ k) (h3 : k < 3) (n0 : k ≠ 0) (n1 : k ≠ 1) : CvIs k f g (.ref g) := .inr (.inr ⟨by omega, rfl⟩)
theorem pick {h₀ h : Heap} {L a : Addr} {o : Obj} {news l : List (Addr × Obj)} (N : News h₀ L h news) (hm : (a, o) ∈ news) (r : News h₀ L h l) : News h₀ L h ((a, o) :: l) := fun p hp => by
  rcases List.mem_cons.mp hp with rfl | hp
  · exact N _ hm
  · exact r p hp
theorem withTwo {P Q R : Prop} (h1 : P) (h2 : Q) (k : P → Q → R) : R := k h1 h2
/-! ## cuts -/
section
variable {M : Model} {A : Around} {E : Value → Shared → Prop} {s : Shared} {h₀ : Heap} {L : Addr} {m : Str → Option Value} {news : List (Addr × Obj)}
def MidP {α : Type} (h₀ : Heap) (L : Addr) (m : Str → Option Value) (news : List (Addr × Obj)) (s : Shared) (P : α → Prop) (v : α) (s' : Shared) : Prop :=
  ∃ h' k, s' = { s with heap := h', toks := k } ∧ Fr h₀ L h' m ∧ News h₀ L h' news ∧ P v
theorem MidP.mk {α : Type} {P : α → Prop} {v : α} {h' : Heap} {k : Nat} {news' : List (Addr × Obj)} (F : Fr h₀ L h' m) (N : News h₀ L h' news') (hs : ∀ p ∈ news, p ∈ news') (hp : P v) : MidP h₀ L m news s P v { s with heap := h', toks := k } :=
  ⟨h', k, rfl, F, fun p hp => N p (hs p hp), hp⟩
theorem cutP {α : Type} {t : Sem α} {Q : α → Shared → Prop} (P : α → Prop) (_F : Fr h₀ L s.heap m) (_N : News h₀ L s.heap news) (walk : wpAny M A t (MidP h₀ L m news s P) E s)
    (cont : ∀ v h' k, Fr h₀ L h' m → News h₀ L h' news → P v → Q v { s with heap := h', toks := k }) : wpAny M A t Q E s :=
  wpAny_mono walk (fun v s' hv => by obtain ⟨h', k, rfl, F', N', hp⟩ := hv; exact cont v h' k F' N' hp) fun _ _ e => e
/-- a statement that sets one name -/
def MidS (h₀ : Heap) (L : Addr) (m₀ : Str → Option Value) (x : Str) (news : List (Addr × Obj)) (s : Shared) (P : Value → Prop) (fl : Flow) (s' : Shared) : Prop :=
  fl = .next ∧ ∃ v h' k, s' = { s with heap := h', toks := k } ∧ Fr h₀ L h' (fun z => if z = x then some v else m₀ z) ∧ News h₀ L h' news ∧ P v
theorem MidS.mk {m₀ m' : Str → Option Value} {x : Str} {P : Value → Prop} {v : Value} {h' : Heap} {k : Nat} {news' : List (Addr × Obj)} (F : Fr h₀ L h' m') (N : News h₀ L h' news') (hs : ∀ p ∈ news, p ∈ news') (hx : m' x = some v) (hm : ∀ z, z ≠ x → m' z = m₀ z) (hp : P v) : MidS h₀ L m₀ x news s P .next { s with heap := h', toks := k } := by
  have e : m' = (fun z => if z = x then some v else m₀ z) := by
    funext z
    by_cases h : z = x
    · subst h; simp [hx]
    · simp [h, hm z h]
  rw [e] at F
  exact ⟨rfl, v, h', k, rfl, F, fun p hp => N p (hs p hp), hp⟩
theorem cutSt {t : Sem Flow} {Q : Flow → Shared → Prop} {m₀ : Str → Option Value} {v₀ : Value} (x : Str) (P : Value → Prop) (_F : Fr h₀ L s.heap (fun z => if z = x then some v₀ else m₀ z)) (_N : News h₀ L s.heap news) (walk : wpAny M A t (MidS h₀ L m₀ x news s P) E s)
    (cont : ∀ v h' k, Fr h₀ L h' (fun z => if z = x then some v else m₀ z) → News h₀ L h' news → P v → Q .next { s with heap := h', toks := k }) : wpAny M A t Q E s :=
  wpAny_mono walk (fun fl s' hv => by obtain ⟨rfl, v, h', k, rfl, F', N', hp⟩ := hv; exact cont v h' k F' N' hp) fun _ _ e => e
end
end Mine

namespace Mine
open PySem.Calls PyProof.V PySem.Spec Builtin
set_option maxRecDepth 100000
local macro_rules | `(tactic| walk_at "compareOp In bytes bytes") => `(tactic| (k_here; (with_reducible show wpAny _ _ (compareOp CmpOp.In (Value.bytes _ _) (Value.bytes _ _)) _ _ _); k_dflt (refine' in_K ?mF ?mN ?mh ?_; (case mF => k_asm); (case mN => k_asm); (case mh => exact rfl)); intro _ _ F' N'; (try k_sweep)))
local macro_rules | `(tactic| walk_at "compareOp NotIn bytes bytes") => `(tactic| (k_here; (with_reducible show wpAny _ _ (compareOp CmpOp.NotIn (Value.bytes _ _) (Value.bytes _ _)) _ _ _); k_dflt (refine' notIn_K ?mF ?mN ?mh ?_; (case mF => k_asm); (case mN => k_asm); (case mh => exact rfl)); intro _ _ F' N'; (try k_sweep)))
local macro_rules | `(tactic| walk_at "subscriptTail") => `(tactic| (k_here; (with_reducible show wpAny _ _ (subscriptTail _ (Expr.Slice _ _ none _) (Value.bytes _ _) (Value.ref _)) _ _ _); (with_reducible rename Fr _ _ _ _ => F'); (with_reducible rename News _ _ _ _ => N'); (refine slice_B (s := ⟨_, _, _, _, _⟩) F' N' (by constructor) (by constructor) (by first | assumption | omega) ?_); intro _ _ _ F' N'))
local macro_rules | `(tactic| walk_at "getMethod bytes") => `(tactic| (k_here; (with_reducible first | refine m_join ?_ | refine m_replace ?_ | refine m_split ?_ | refine m_endswith ?_)))
local macro_rules | `(tactic| walk_at "call builtin:bytes.endswith") => `(tactic| (k_here; refine endswith_K ?_))
local macro_rules | `(tactic| walk_at "call builtin:bytes.split") => `(tactic| (k_here; k_dflt (refine' split_K ?mF ?mN ?mo ?mz ?mn ?_; (case mF => k_asm); (case mN => k_asm); (case mo => rfl); (case mz => exact fun p hp => Nat.le_trans (rows_size _ p hp) (by rw [sizeLine_eq]; omega)); (case mn => exact Nat.le_trans (rows_len _) (by rw [sizeLine_eq]; omega))); intro l' h' vs' _ F' N' l1 hBA'; (try k_lt l1); (try k_sweep)))
local macro_rules | `(tactic| walk_at "subscriptTail") => `(tactic| (k_here; (with_reducible show wpAny _ _ (subscriptTail _ (Expr.Slice none (some _) none _) (Value.ref _) (Value.ref _)) _ _ _); (with_reducible rename Fr _ _ _ _ => F'); (with_reducible rename News _ _ _ _ => N'); (with_reducible rename BA _ _ => hBA'); (refine slice_init (s := ⟨_, _, _, _, _⟩) F' N' (by k_mem) hBA' (Nat.le_trans (rows_len _) (by omega)) ?_); intro D' ws' h' F' N' l1 hBA'; (try k_lt l1); (try k_sweep)))
local macro_rules | `(tactic| walk_at "subscriptTail") => `(tactic| (k_here; (with_reducible show wpAny _ _ (subscriptTail _ (Expr.Slice (some _) none none _) (Value.ref _) (Value.ref _)) _ _ _); (with_reducible rename Fr _ _ _ _ => F'); (with_reducible rename News _ _ _ _ => N'); (refine slice_last (s := ⟨_, _, _, _, _⟩) F' N' (by k_mem) (by assumption) (Nat.le_trans (rows_len _) (by omega)) ?_); intro D' ws' h' F' N' l1 hBA'; (try k_lt l1); (try k_sweep)))
local macro_rules | `(tactic| walk_at "eval ListComp") => `(tactic| (k_here; (with_reducible rename BA _ _ => hBA'); k_dflt (refine LCg.ListComp_U (F₀ := by k_asm) (by with_unfolding_all rfl) (by decide) (by rfl) (by decide) (by rfl) ?_)))
local macro_rules | `(tactic| walk_at "CompSrc") => `(tactic| (k_here; (with_reducible rename BA _ _ => hBA'); k_dflt (refine LCg.CompSrc.ledger (by rfl) (by k_asm) (by k_asm) (by k_mem) (by rw [List.size_toArray, hBA'.length, sizeLine_eq, List.length_dropLast]; exact Nat.le_trans (Nat.sub_le _ _) (Nat.le_trans (rows_len _) (by omega))) ?_; intro g'; (refine' kcb_list chopB hBA' (fun p' t' I' oI' C' oC' D' m' ys' h' tk' E' hk' hC' hx' F' N' off' ne' => (Mine.withSize (Nat.le_trans (rows_size _ p' (List.dropLast_subset _ hk')) (by omega)) (fun hps' => ?_))) (fun ys' hBA' => ?_)); (all_goals (try (simp only [LCg.Off3, and_true] at off'))); (all_goals (try k_fold)))))
local macro_rules | `(tactic| walk_at "CompEnd") => `(tactic| (refine LCg.CompEnd.intro (by assumption) (by assumption) _ (fun _ hp => hp) (by first | assumption | (simp only [LCg.Off3, and_true]; assumption)) (by lcg_src) (el_of ?_); first | exact chop_pos (by assumption) | exact chop_neg (by assumption) | exact chop_neg (ne_true_of_eq_false (by assumption))))
local macro_rules | `(tactic| walk_at "binaryOp Add ref ref") => `(tactic| (k_here; (with_reducible show wpAny _ _ (binaryOp _ (Value.ref _) (Value.ref _)) _ _ _); k_dflt (refine' add_BA ?F ?N ?a ?b ?i ?j ?z ?_; (case F => k_asm); (case N => k_asm); (case a => k_mem); (case b => k_mem); (case i => assumption); (case j => assumption); (case z => exact sum_len _ (by omega))); intro D' us' h' F' N' l1 hBA'; (try k_lt l1); (try k_sweep)))
local macro_rules | `(tactic| walk_at "call builtin:bytes.join") => `(tactic| (k_here; k_dflt (first | refine' join_down ?l ?b ?z ?_ | refine' join_up ?l ?b ?z ?_); (case l => exact News.isList (by k_asm) (by k_mem)); (case b => assumption); (case z => omega); intro _ _))
local macro_rules | `(tactic| walk_at "call builtin:bytes.replace") => `(tactic| (k_here; k_dflt (refine' replace_down ?z ?_; (case z => omega)); intro _ _))
local macro_rules | `(tactic| walk_at "compareOp In bytes ref") => `(tactic| (k_here; (with_reducible show wpAny _ _ (compareOp CmpOp.In (Value.bytes _ _) (Value.ref _)) _ _ _); k_dflt (refine' in_tup2 ?mN ?mm ?_; (case mN => k_asm); (case mm => k_mem))))
local macro_rules | `(tactic| walk_at "call builtin:bytes.decode") => `(tactic| (k_here; (refine decode_p ?_); intro _ _))
local macro_rules | `(tactic| walk_at "call ref") => `(tactic| (k_here; (with_reducible show wpAny _ _ (call (Value.ref 21) [Value.bytes _ _]) _ _ _); k_dflt (refine' CR.use (c_isbin _ _ _ _ _ _ _ _ _) ?k1 ?k2 ?k3 ?k4 ?k5 ?kK ?kp ?kd ?ku ?_; (case k1 => k_asm); (case k2 => k_asm); (case k3 => k_asm); (case k4 => k_asm); (case k5 => k_asm); (case kK => first | exact rfl | assumption); (case kp => first | with_reducible assumption | omega); (case kd => ktr_room); (case ku => ktr_units)); intro _ _ _ F' N'; (try dsimp only); (try k_sweep)))
local macro_rules | `(tactic| walk_at "call ref") => `(tactic| (k_here; (with_reducible show wpAny _ _ (call (Value.ref 101) [Value.bytes _ _]) _ _ _); k_dflt (refine' CR.use (c_down _ _ _ _ _ _ _ _ _) ?k1 ?k2 ?k3 ?k4 ?k5 ?kK ?kp ?kd ?ku ?_; (case k1 => k_asm); (case k2 => k_asm); (case k3 => k_asm); (case k4 => k_asm); (case k5 => k_asm); (case kK => first | exact rfl | assumption); (case kp => first | with_reducible assumption | omega); (case kd => ktr_room); (case ku => ktr_units)); intro _ _ _ F' N'; (try dsimp only); (try k_sweep)))
local macro_rules | `(tactic| walk_at "call ref") => `(tactic| (k_here; (with_reducible show wpAny _ _ (call (Value.ref 106) [Value.bytes _ _]) _ _ _); k_dflt (refine' CR.use (c_up _ _ _ _ _ _ _ _ _) ?k1 ?k2 ?k3 ?k4 ?k5 ?kK ?kp ?kd ?ku ?_; (case k1 => k_asm); (case k2 => k_asm); (case k3 => k_asm); (case k4 => k_asm); (case k5 => k_asm); (case kK => first | exact rfl | assumption); (case kp => first | with_reducible assumption | omega); (case kd => ktr_room); (case ku => ktr_units)); intro _ _ _ F' N'; (try dsimp only); (try k_sweep)))
local macro_rules | `(tactic| walk_at "call ref") => `(tactic| (k_here; (with_reducible show wpAny _ _ (call (Value.ref 73) [Value.bytes _ _]) _ _ _); k_dflt (refine' CR.use (c_crlf _ _ _ _ _ _ _ _ _) ?k1 ?k2 ?k3 ?k4 ?k5 ?kK ?kp ?kd ?ku ?_; (case k1 => k_asm); (case k2 => k_asm); (case k3 => k_asm); (case k4 => k_asm); (case k5 => k_asm); (case kK => first | exact rfl | assumption); (case kp => first | with_reducible assumption | omega); (case kd => ktr_room); (case ku => ktr_units)); intro _ _ _ F' N'; (try dsimp only); (try k_sweep)))
local macro_rules | `(tactic| walk_at "call ref") => `(tactic| (k_here; (with_reducible show wpAny _ _ (call (Value.ref 80) [Value.bytes _ _]) _ _ _); k_dflt (refine' CR.use (c_lf _ _ _ _ _ _ _ _ _) ?k1 ?k2 ?k3 ?k4 ?k5 ?kK ?kp ?kd ?ku ?_; (case k1 => k_asm); (case k2 => k_asm); (case k3 => k_asm); (case k4 => k_asm); (case k5 => k_asm); (case kK => first | exact rfl | assumption); (case kp => first | with_reducible assumption | omega); (case kd => ktr_room); (case ku => ktr_units)); intro _ _ _ F' N'; (try dsimp only); (try k_sweep)))
def txtTrue : List UInt8 := [116, 114, 117, 101]
def lostB (first made safe : Array UInt8) : Bool :=
  if safe.toList == [116, 114, 117, 101] then
    if hasB first #[13, 10] = true ∧ hasB made #[13, 10] = false then (upB made).toList != first.toList
    else if hasB first #[10] = true ∧ hasB made #[13, 10] = true ∧ hasB first #[13, 10] = false then (downB made).toList != first.toList
    else false
  else false

theorem lost_ret {h₀ h' : Heap} {L : Addr} {m : Str → Option Value} {news : List (Addr × Obj)} {s : Shared} {Q : Value → Shared → Prop} {x y : Bool} {tk' : Nat}
    (hret : ∀ (t : Tok) (h' : Heap) (tk' : Nat), Fr h₀ L h' m → News h₀ L h' news → Q (.bool x) { s with heap := h', toks := tk' }) (F : Fr h₀ L h' m) (N : News h₀ L h' news) (e : x = y) : Q (.bool y) { s with heap := h', toks := tk' } := by
  subst e
  exact hret 0 h' tk' F N

set_option maxHeartbeats 4000000 in
theorem c_lost (w : World) (p : Program) (loose : List Str) (mean : ExcName → Option Value) (mg mb : Str → Option Value) (news : List (Addr × Obj)) (b c sf : Array UInt8) (t u v : Tok) :
    CR 3 w p loose mean mg mb 113 news (b.size ≤ 100000 ∧ c.size ≤ 100000) [.bytes b t, .bytes c u, .bytes sf v] (fun _ => .bool (lostB b c sf)) := by
  unfold CR
  k_fill
  w_top off
  intro dp un gd cn cs a ccd cl outer A₀ base h₀ L m s Q E B F X N T hk hz hdp hu hret
  obtain ⟨hz1, hz2⟩ := hz
  refine wpAny_call ?_
  k_dflt cell_enter
  k_steps
  all_goals refine lost_ret (fun t h' tk' F' N' => hret t h' tk' F' N') (by assumption) (by assumption) ?_
  all_goals (unfold lostB; simp_all; done)
end Mine

namespace Mine
open PySem.Calls PyProof.V PySem.Spec Builtin
set_option maxRecDepth 100000
local macro_rules | `(tactic| walk_at "compareOp In bytes bytes") => `(tactic| (k_here; (with_reducible show wpAny _ _ (compareOp CmpOp.In (Value.bytes _ _) (Value.bytes _ _)) _ _ _); k_dflt (refine' in_K ?mF ?mN ?mh ?_; (case mF => k_asm); (case mN => k_asm); (case mh => exact rfl)); intro _ _ F' N'; (try k_sweep)))
local macro_rules | `(tactic| walk_at "compareOp NotIn bytes bytes") => `(tactic| (k_here; (with_reducible show wpAny _ _ (compareOp CmpOp.NotIn (Value.bytes _ _) (Value.bytes _ _)) _ _ _); k_dflt (refine' notIn_K ?mF ?mN ?mh ?_; (case mF => k_asm); (case mN => k_asm); (case mh => exact rfl)); intro _ _ F' N'; (try k_sweep)))
local macro_rules | `(tactic| walk_at "subscriptTail") => `(tactic| (k_here; (with_reducible show wpAny _ _ (subscriptTail _ (Expr.Slice _ _ none _) (Value.bytes _ _) (Value.ref _)) _ _ _); (with_reducible rename Fr _ _ _ _ => F'); (with_reducible rename News _ _ _ _ => N'); (refine slice_B (s := ⟨_, _, _, _, _⟩) F' N' (by constructor) (by constructor) (by first | assumption | omega) ?_); intro _ _ _ F' N'))
local macro_rules | `(tactic| walk_at "getMethod bytes") => `(tactic| (k_here; (with_reducible first | refine m_join ?_ | refine m_replace ?_ | refine m_split ?_ | refine m_endswith ?_)))
local macro_rules | `(tactic| walk_at "call builtin:bytes.endswith") => `(tactic| (k_here; refine endswith_K ?_))
local macro_rules | `(tactic| walk_at "call builtin:bytes.split") => `(tactic| (k_here; k_dflt (refine' split_K ?mF ?mN ?mo ?mz ?mn ?_; (case mF => k_asm); (case mN => k_asm); (case mo => rfl); (case mz => exact fun p hp => Nat.le_trans (rows_size _ p hp) (by rw [sizeLine_eq]; omega)); (case mn => exact Nat.le_trans (rows_len _) (by rw [sizeLine_eq]; omega))); intro l' h' vs' _ F' N' l1 hBA'; (try k_lt l1); (try k_sweep)))
local macro_rules | `(tactic| walk_at "subscriptTail") => `(tactic| (k_here; (with_reducible show wpAny _ _ (subscriptTail _ (Expr.Slice none (some _) none _) (Value.ref _) (Value.ref _)) _ _ _); (with_reducible rename Fr _ _ _ _ => F'); (with_reducible rename News _ _ _ _ => N'); (with_reducible rename BA _ _ => hBA'); (refine slice_init (s := ⟨_, _, _, _, _⟩) F' N' (by k_mem) hBA' (Nat.le_trans (rows_len _) (by omega)) ?_); intro D' ws' h' F' N' l1 hBA'; (try k_lt l1); (try k_sweep)))
local macro_rules | `(tactic| walk_at "subscriptTail") => `(tactic| (k_here; (with_reducible show wpAny _ _ (subscriptTail _ (Expr.Slice (some _) none none _) (Value.ref _) (Value.ref _)) _ _ _); (with_reducible rename Fr _ _ _ _ => F'); (with_reducible rename News _ _ _ _ => N'); (refine slice_last (s := ⟨_, _, _, _, _⟩) F' N' (by k_mem) (by assumption) (Nat.le_trans (rows_len _) (by omega)) ?_); intro D' ws' h' F' N' l1 hBA'; (try k_lt l1); (try k_sweep)))
local macro_rules | `(tactic| walk_at "eval ListComp") => `(tactic| (k_here; (with_reducible rename BA _ _ => hBA'); k_dflt (refine LCg.ListComp_U (F₀ := by k_asm) (by with_unfolding_all rfl) (by decide) (by rfl) (by decide) (by rfl) ?_)))
local macro_rules | `(tactic| walk_at "CompSrc") => `(tactic| (k_here; (with_reducible rename BA _ _ => hBA'); k_dflt (refine LCg.CompSrc.ledger (by rfl) (by k_asm) (by k_asm) (by k_mem) (by rw [List.size_toArray, hBA'.length, sizeLine_eq, List.length_dropLast]; exact Nat.le_trans (Nat.sub_le _ _) (Nat.le_trans (rows_len _) (by omega))) ?_; intro g'; (refine' kcb_list chopB hBA' (fun p' t' I' oI' C' oC' D' m' ys' h' tk' E' hk' hC' hx' F' N' off' ne' => (Mine.withSize (Nat.le_trans (rows_size _ p' (List.dropLast_subset _ hk')) (by omega)) (fun hps' => ?_))) (fun ys' hBA' => ?_)); (all_goals (try (simp only [LCg.Off3, and_true] at off'))); (all_goals (try k_fold)))))
local macro_rules | `(tactic| walk_at "CompEnd") => `(tactic| (refine LCg.CompEnd.intro (by assumption) (by assumption) _ (fun _ hp => hp) (by first | assumption | (simp only [LCg.Off3, and_true]; assumption)) (by lcg_src) (el_of ?_); first | exact chop_pos (by assumption) | exact chop_neg (by assumption) | exact chop_neg (ne_true_of_eq_false (by assumption))))
local macro_rules | `(tactic| walk_at "binaryOp Add ref ref") => `(tactic| (k_here; (with_reducible show wpAny _ _ (binaryOp _ (Value.ref _) (Value.ref _)) _ _ _); k_dflt (refine' add_BA ?F ?N ?a ?b ?i ?j ?z ?_; (case F => k_asm); (case N => k_asm); (case a => k_mem); (case b => k_mem); (case i => assumption); (case j => assumption); (case z => exact sum_len _ (by omega))); intro D' us' h' F' N' l1 hBA'; (try k_lt l1); (try k_sweep)))
local macro_rules | `(tactic| walk_at "call builtin:bytes.join") => `(tactic| (k_here; k_dflt (first | refine' join_down ?l ?b ?z ?_ | refine' join_up ?l ?b ?z ?_); (case l => exact News.isList (by k_asm) (by k_mem)); (case b => assumption); (case z => omega); intro _ _))
local macro_rules | `(tactic| walk_at "call builtin:bytes.replace") => `(tactic| (k_here; k_dflt (refine' replace_down ?z ?_; (case z => omega)); intro _ _))
local macro_rules | `(tactic| walk_at "compareOp In bytes ref") => `(tactic| (k_here; (with_reducible show wpAny _ _ (compareOp CmpOp.In (Value.bytes _ _) (Value.ref _)) _ _ _); k_dflt (refine' in_tup2 ?mN ?mm ?_; (case mN => k_asm); (case mm => k_mem))))
local macro_rules | `(tactic| walk_at "call builtin:bytes.decode") => `(tactic| (k_here; (refine decode_p ?_); intro _ _))
local macro_rules | `(tactic| walk_at "call ref") => `(tactic| (k_here; (with_reducible show wpAny _ _ (call (Value.ref 21) [Value.bytes _ _]) _ _ _); k_dflt (refine' CR.use (c_isbin _ _ _ _ _ _ _ _ _) ?k1 ?k2 ?k3 ?k4 ?k5 ?kK ?kp ?kd ?ku ?_; (case k1 => k_asm); (case k2 => k_asm); (case k3 => k_asm); (case k4 => k_asm); (case k5 => k_asm); (case kK => first | exact rfl | assumption); (case kp => first | with_reducible assumption | omega); (case kd => ktr_room); (case ku => ktr_units)); intro _ _ _ F' N'; (try dsimp only); (try k_sweep)))
local macro_rules | `(tactic| walk_at "call ref") => `(tactic| (k_here; (with_reducible show wpAny _ _ (call (Value.ref 101) [Value.bytes _ _]) _ _ _); k_dflt (refine' CR.use (c_down _ _ _ _ _ _ _ _ _) ?k1 ?k2 ?k3 ?k4 ?k5 ?kK ?kp ?kd ?ku ?_; (case k1 => k_asm); (case k2 => k_asm); (case k3 => k_asm); (case k4 => k_asm); (case k5 => k_asm); (case kK => first | exact rfl | assumption); (case kp => first | with_reducible assumption | omega); (case kd => ktr_room); (case ku => ktr_units)); intro _ _ _ F' N'; (try dsimp only); (try k_sweep)))
local macro_rules | `(tactic| walk_at "call ref") => `(tactic| (k_here; (with_reducible show wpAny _ _ (call (Value.ref 106) [Value.bytes _ _]) _ _ _); k_dflt (refine' CR.use (c_up _ _ _ _ _ _ _ _ _) ?k1 ?k2 ?k3 ?k4 ?k5 ?kK ?kp ?kd ?ku ?_; (case k1 => k_asm); (case k2 => k_asm); (case k3 => k_asm); (case k4 => k_asm); (case k5 => k_asm); (case kK => first | exact rfl | assumption); (case kp => first | with_reducible assumption | omega); (case kd => ktr_room); (case ku => ktr_units)); intro _ _ _ F' N'; (try dsimp only); (try k_sweep)))
local macro_rules | `(tactic| walk_at "call ref") => `(tactic| (k_here; (with_reducible show wpAny _ _ (call (Value.ref 73) [Value.bytes _ _]) _ _ _); k_dflt (refine' CR.use (c_crlf _ _ _ _ _ _ _ _ _) ?k1 ?k2 ?k3 ?k4 ?k5 ?kK ?kp ?kd ?ku ?_; (case k1 => k_asm); (case k2 => k_asm); (case k3 => k_asm); (case k4 => k_asm); (case k5 => k_asm); (case kK => first | exact rfl | assumption); (case kp => first | with_reducible assumption | omega); (case kd => ktr_room); (case ku => ktr_units)); intro _ _ _ F' N'; (try dsimp only); (try k_sweep)))
local macro_rules | `(tactic| walk_at "call ref") => `(tactic| (k_here; (with_reducible show wpAny _ _ (call (Value.ref 80) [Value.bytes _ _]) _ _ _); k_dflt (refine' CR.use (c_lf _ _ _ _ _ _ _ _ _) ?k1 ?k2 ?k3 ?k4 ?k5 ?kK ?kp ?kd ?ku ?_; (case k1 => k_asm); (case k2 => k_asm); (case k3 => k_asm); (case k4 => k_asm); (case k5 => k_asm); (case kK => first | exact rfl | assumption); (case kp => first | with_reducible assumption | omega); (case kd => ktr_room); (case ku => ktr_units)); intro _ _ _ F' N'; (try dsimp only); (try k_sweep)))
local macro_rules | `(tactic| cell_enter) => `(tactic| (refine' code_def ?k1 ?k2 ?k3 ?k4 ?k5 ?kA ?kF ?kK ?k6 ?k7 ?k8 ?k9 ?kB ?_ ?c2 ?c3 ?c4 ?c5; (case kA => exact rfl); (case kF => exact rfl); (case kK => assumption); (case k1 => k_asm); (case k2 => k_asm); (case k3 => k_asm); (case k4 => k_asm); (case k5 => k_asm); (case k6 => k_is); (case k7 => k_is); (case k8 => ktr_room); (case k9 => exact binds_K (by k_in) rfl (by k_is) rfl rfl rfl); (case c5 => decide); (case kB => exact locs rfl); (case c2 => exact rfl); (case c3 => exact rfl); (case c4 => exact rfl); k_whole; intro g' L' h' FG' F' N' B' X' T'; (try dsimp only); (try k_lift B'); (try k_fold)))
local macro_rules | `(tactic| walk_at "leaving ref") => `(tactic| (k_here; first
  | (refine' leave_newS ?k1 ?k0 ?k2 ?k3 ?_; (case k0 => assumption); (case k2 => assumption); (case k1 => assumption); (case k3 => k_asm); k_whole; intro h' S' R' U'; (try dsimp only at S' R' U' ⊢))
  | (refine' leave_onSN ?k1 ?k2 ?k3 ?k4 ?_; (case k3 => assumption); (case k2 => assumption); (case k1 => assumption); (case k4 => assumption); k_whole; intro h' S' R' U'; (try dsimp only at S' R' U' ⊢))))
/-- check_safecrlf: None, or ValueError where the octets would be lost -/
def CX (k : Nat) (w : World) (p : Program) (loose : List Str) (mean : ExcName → Option Value) (mg mb : Str → Option Value) (f : Addr) (news : List (Addr × Obj)) (pre : Prop) (vs : List Value) (lost : Bool) : Prop :=
  ∀ (dp un : Nat) (gd : Option (List Code)) (cn : Str) (cs : Scope) (a : Addr) (ccd : Value) (cl : List (Str × Addr)) (outer : List Env) (A₀ : Around) (base h₀ : Heap) (L : Addr) (m : Str → Option Value) (s : Shared) (Q E : Value → Shared → Prop),
    Below A₀ base outer h₀ → Fr h₀ L s.heap m → Frag.In (hd.heap_39 w.params) h₀ → News h₀ L s.heap news → Top p loose mean mg mb h₀ → cs.kind = .function → pre → dp + k < recursionLimit → un + 8 * k < cLine →
    (lost = false → ∀ (h' : Heap) (tk' : Nat), Fr h₀ L h' m → News h₀ L h' news → Q .none { s with heap := h', toks := tk' }) →
    (lost = true → ∀ (e : Addr) (g₂ h' : Heap) (tk' : Nat), Fr h₀ L g₂ m → g₂.UpToSlots h' → RaisedSN base g₂ (envX cn cs L a ccd cl :: outer) e (.type "ValueError") news h' → E (.ref e) { s with heap := h', toks := tk' }) →
    wpAny (model PySem.Challenge.rw_at6009_01.row.prog w) (ktrTop dp un gd cn cs L a ccd cl outer) (call (.ref f) vs) Q E s

theorem raised_drop {base G : Heap} {l : List Env} {e : Addr} {cls : Value} {news news' : List (Addr × Obj)} {h : Heap} (R : RaisedSN base G l e cls news' h) (hs : ∀ p ∈ news, p ∈ news') : RaisedSN base G l e cls news h := by
  obtain ⟨B, a0, h1, h2, h3, h4⟩ := R
  exact ⟨B, a0, h1, h2, fun q hq => h3 q (hs q hq), h4⟩

set_option maxHeartbeats 4000000 in
theorem c_check (w : World) (p : Program) (loose : List Str) (mean : ExcName → Option Value) (mg mb : Str → Option Value) (news : List (Addr × Obj)) (b c sf : Array UInt8) (t u v x : Tok) :
    CX 3 w p loose mean mg mb 88 news (b.size ≤ 100000 ∧ c.size ≤ 100000 ∧ (sf = #[102, 97, 108, 115, 101] ∨ sf = #[116, 114, 117, 101] ∨ sf = #[119, 97, 114, 110])) [.bytes b t, .bytes c u, .bytes sf v, .bytes #[112] x] (lostB b c sf) := by
  unfold CX
  k_fill
  w_top off
  intro dp un gd cn cs a ccd cl outer A₀ base h₀ L m s Q E B F X N T hk hz hdp hu hret hraise
  obtain ⟨hz1, hz2, hsf⟩ := hz
  rcases hsf with rfl | rfl | rfl
  all_goals refine wpAny_call ?_
  all_goals k_dflt cell_enter
  all_goals k_steps
  all_goals first
    | exact hret (by unfold lostB; simp_all) _ _ (by assumption) (cb_drop (by assumption) (fun p hp => by repeat (first | assumption | apply List.mem_cons_of_mem)))
    | exact hraise (by unfold lostB; simp_all) _ _ _ _ (by assumption) (by assumption) (raised_drop (by assumption) (fun p hp => by repeat (first | assumption | apply List.mem_cons_of_mem)))
end Mine

namespace Mine
open PySem.Calls PyProof.V PySem.Spec Builtin
set_option maxRecDepth 100000
local macro_rules | `(tactic| walk_at "compareOp In bytes bytes") => `(tactic| (k_here; (with_reducible show wpAny _ _ (compareOp CmpOp.In (Value.bytes _ _) (Value.bytes _ _)) _ _ _); k_dflt (refine' in_K ?mF ?mN ?mh ?_; (case mF => k_asm); (case mN => k_asm); (case mh => exact rfl)); intro _ _ F' N'; (try k_sweep)))
local macro_rules | `(tactic| walk_at "compareOp NotIn bytes bytes") => `(tactic| (k_here; (with_reducible show wpAny _ _ (compareOp CmpOp.NotIn (Value.bytes _ _) (Value.bytes _ _)) _ _ _); k_dflt (refine' notIn_K ?mF ?mN ?mh ?_; (case mF => k_asm); (case mN => k_asm); (case mh => exact rfl)); intro _ _ F' N'; (try k_sweep)))
local macro_rules | `(tactic| walk_at "subscriptTail") => `(tactic| (k_here; (with_reducible show wpAny _ _ (subscriptTail _ (Expr.Slice _ _ none _) (Value.bytes _ _) (Value.ref _)) _ _ _); (with_reducible rename Fr _ _ _ _ => F'); (with_reducible rename News _ _ _ _ => N'); (refine slice_B (s := ⟨_, _, _, _, _⟩) F' N' (by constructor) (by constructor) (by first | assumption | omega) ?_); intro _ _ _ F' N'))
local macro_rules | `(tactic| walk_at "getMethod bytes") => `(tactic| (k_here; (with_reducible first | refine m_join ?_ | refine m_replace ?_ | refine m_split ?_ | refine m_endswith ?_)))
local macro_rules | `(tactic| walk_at "call builtin:bytes.endswith") => `(tactic| (k_here; refine endswith_K ?_))
local macro_rules | `(tactic| walk_at "call builtin:bytes.split") => `(tactic| (k_here; k_dflt (refine' split_K ?mF ?mN ?mo ?mz ?mn ?_; (case mF => k_asm); (case mN => k_asm); (case mo => rfl); (case mz => exact fun p hp => Nat.le_trans (rows_size _ p hp) (by rw [sizeLine_eq]; omega)); (case mn => exact Nat.le_trans (rows_len _) (by rw [sizeLine_eq]; omega))); intro l' h' vs' _ F' N' l1 hBA'; (try k_lt l1); (try k_sweep)))
local macro_rules | `(tactic| walk_at "subscriptTail") => `(tactic| (k_here; (with_reducible show wpAny _ _ (subscriptTail _ (Expr.Slice none (some _) none _) (Value.ref _) (Value.ref _)) _ _ _); (with_reducible rename Fr _ _ _ _ => F'); (with_reducible rename News _ _ _ _ => N'); (with_reducible rename BA _ _ => hBA'); (refine slice_init (s := ⟨_, _, _, _, _⟩) F' N' (by k_mem) hBA' (Nat.le_trans (rows_len _) (by omega)) ?_); intro D' ws' h' F' N' l1 hBA'; (try k_lt l1); (try k_sweep)))
local macro_rules | `(tactic| walk_at "subscriptTail") => `(tactic| (k_here; (with_reducible show wpAny _ _ (subscriptTail _ (Expr.Slice (some _) none none _) (Value.ref _) (Value.ref _)) _ _ _); (with_reducible rename Fr _ _ _ _ => F'); (with_reducible rename News _ _ _ _ => N'); (refine slice_last (s := ⟨_, _, _, _, _⟩) F' N' (by k_mem) (by assumption) (Nat.le_trans (rows_len _) (by omega)) ?_); intro D' ws' h' F' N' l1 hBA'; (try k_lt l1); (try k_sweep)))
local macro_rules | `(tactic| walk_at "eval ListComp") => `(tactic| (k_here; (with_reducible rename BA _ _ => hBA'); k_dflt (refine LCg.ListComp_U (F₀ := by k_asm) (by with_unfolding_all rfl) (by decide) (by rfl) (by decide) (by rfl) ?_)))
local macro_rules | `(tactic| walk_at "CompSrc") => `(tactic| (k_here; (with_reducible rename BA _ _ => hBA'); k_dflt (refine LCg.CompSrc.ledger (by rfl) (by k_asm) (by k_asm) (by k_mem) (by rw [List.size_toArray, hBA'.length, sizeLine_eq, List.length_dropLast]; exact Nat.le_trans (Nat.sub_le _ _) (Nat.le_trans (rows_len _) (by omega))) ?_; intro g'; (refine' kcb_list chopB hBA' (fun p' t' I' oI' C' oC' D' m' ys' h' tk' E' hk' hC' hx' F' N' off' ne' => (Mine.withSize (Nat.le_trans (rows_size _ p' (List.dropLast_subset _ hk')) (by omega)) (fun hps' => ?_))) (fun ys' hBA' => ?_)); (all_goals (try (simp only [LCg.Off3, and_true] at off'))); (all_goals (try k_fold)))))
local macro_rules | `(tactic| walk_at "CompEnd") => `(tactic| (refine LCg.CompEnd.intro (by assumption) (by assumption) _ (fun _ hp => hp) (by first | assumption | (simp only [LCg.Off3, and_true]; assumption)) (by lcg_src) (el_of ?_); first | exact chop_pos (by assumption) | exact chop_neg (by assumption) | exact chop_neg (ne_true_of_eq_false (by assumption))))
local macro_rules | `(tactic| walk_at "binaryOp Add ref ref") => `(tactic| (k_here; (with_reducible show wpAny _ _ (binaryOp _ (Value.ref _) (Value.ref _)) _ _ _); k_dflt (refine' add_BA ?F ?N ?a ?b ?i ?j ?z ?_; (case F => k_asm); (case N => k_asm); (case a => k_mem); (case b => k_mem); (case i => assumption); (case j => assumption); (case z => exact sum_len _ (by omega))); intro D' us' h' F' N' l1 hBA'; (try k_lt l1); (try k_sweep)))
local macro_rules | `(tactic| walk_at "call builtin:bytes.join") => `(tactic| (k_here; k_dflt (first | refine' join_down ?l ?b ?z ?_ | refine' join_up ?l ?b ?z ?_); (case l => exact News.isList (by k_asm) (by k_mem)); (case b => assumption); (case z => omega); intro _ _))
local macro_rules | `(tactic| walk_at "call builtin:bytes.replace") => `(tactic| (k_here; k_dflt (refine' replace_down ?z ?_; (case z => omega)); intro _ _))
local macro_rules | `(tactic| walk_at "compareOp In bytes ref") => `(tactic| (k_here; (with_reducible show wpAny _ _ (compareOp CmpOp.In (Value.bytes _ _) (Value.ref _)) _ _ _); k_dflt (refine' in_tup2 ?mN ?mm ?_; (case mN => k_asm); (case mm => k_mem))))
local macro_rules | `(tactic| walk_at "call builtin:bytes.decode") => `(tactic| (k_here; (refine decode_p ?_); intro _ _))
local macro_rules | `(tactic| walk_at "call ref") => `(tactic| (k_here; (with_reducible show wpAny _ _ (call (Value.ref 21) [Value.bytes _ _]) _ _ _); k_dflt (refine' CR.use (c_isbin _ _ _ _ _ _ _ _ _) ?k1 ?k2 ?k3 ?k4 ?k5 ?kK ?kp ?kd ?ku ?_; (case k1 => k_asm); (case k2 => k_asm); (case k3 => k_asm); (case k4 => k_asm); (case k5 => k_asm); (case kK => first | exact rfl | assumption); (case kp => first | with_reducible assumption | omega); (case kd => ktr_room); (case ku => ktr_units)); intro _ _ _ F' N'; (try dsimp only); (try k_sweep)))
local macro_rules | `(tactic| walk_at "call ref") => `(tactic| (k_here; (with_reducible show wpAny _ _ (call (Value.ref 101) [Value.bytes _ _]) _ _ _); k_dflt (refine' CR.use (c_down _ _ _ _ _ _ _ _ _) ?k1 ?k2 ?k3 ?k4 ?k5 ?kK ?kp ?kd ?ku ?_; (case k1 => k_asm); (case k2 => k_asm); (case k3 => k_asm); (case k4 => k_asm); (case k5 => k_asm); (case kK => first | exact rfl | assumption); (case kp => first | with_reducible assumption | omega); (case kd => ktr_room); (case ku => ktr_units)); intro _ _ _ F' N'; (try dsimp only); (try k_sweep)))
local macro_rules | `(tactic| walk_at "call ref") => `(tactic| (k_here; (with_reducible show wpAny _ _ (call (Value.ref 106) [Value.bytes _ _]) _ _ _); k_dflt (refine' CR.use (c_up _ _ _ _ _ _ _ _ _) ?k1 ?k2 ?k3 ?k4 ?k5 ?kK ?kp ?kd ?ku ?_; (case k1 => k_asm); (case k2 => k_asm); (case k3 => k_asm); (case k4 => k_asm); (case k5 => k_asm); (case kK => first | exact rfl | assumption); (case kp => first | with_reducible assumption | omega); (case kd => ktr_room); (case ku => ktr_units)); intro _ _ _ F' N'; (try dsimp only); (try k_sweep)))
local macro_rules | `(tactic| walk_at "call ref") => `(tactic| (k_here; (with_reducible show wpAny _ _ (call (Value.ref 73) [Value.bytes _ _]) _ _ _); k_dflt (refine' CR.use (c_crlf _ _ _ _ _ _ _ _ _) ?k1 ?k2 ?k3 ?k4 ?k5 ?kK ?kp ?kd ?ku ?_; (case k1 => k_asm); (case k2 => k_asm); (case k3 => k_asm); (case k4 => k_asm); (case k5 => k_asm); (case kK => first | exact rfl | assumption); (case kp => first | with_reducible assumption | omega); (case kd => ktr_room); (case ku => ktr_units)); intro _ _ _ F' N'; (try dsimp only); (try k_sweep)))
local macro_rules | `(tactic| walk_at "call ref") => `(tactic| (k_here; (with_reducible show wpAny _ _ (call (Value.ref 80) [Value.bytes _ _]) _ _ _); k_dflt (refine' CR.use (c_lf _ _ _ _ _ _ _ _ _) ?k1 ?k2 ?k3 ?k4 ?k5 ?kK ?kp ?kd ?ku ?_; (case k1 => k_asm); (case k2 => k_asm); (case k3 => k_asm); (case k4 => k_asm); (case k5 => k_asm); (case kK => first | exact rfl | assumption); (case kp => first | with_reducible assumption | omega); (case kd => ktr_room); (case ku => ktr_units)); intro _ _ _ F' N'; (try dsimp only); (try k_sweep)))
local macro_rules | `(tactic| walk_at "call ref") => `(tactic| (k_here; (with_reducible show wpAny _ _ (call (Value.ref 113) [Value.bytes _ _, Value.bytes _ _, Value.bytes _ _]) _ _ _); k_dflt (refine' CR.use (c_lost _ _ _ _ _ _ _ _ _ _ _ _ _) ?k1 ?k2 ?k3 ?k4 ?k5 ?kK ?kp ?kd ?ku ?_; (case k1 => k_asm); (case k2 => k_asm); (case k3 => k_asm); (case k4 => k_asm); (case k5 => k_asm); (case kK => first | exact rfl | assumption); (case kp => refine ⟨?_, ?_⟩ <;> first | with_reducible assumption | omega); (case kd => ktr_room); (case ku => ktr_units)); intro _ _ _ F' N'; (try dsimp only); (try k_sweep)))
local macro_rules | `(tactic| cell_enter) => `(tactic| (refine' code_def ?k1 ?k2 ?k3 ?k4 ?k5 ?kA ?kF ?kK ?k6 ?k7 ?k8 ?k9 ?kB ?_ ?c2 ?c3 ?c4 ?c5; (case kA => exact rfl); (case kF => exact rfl); (case kK => assumption); (case k1 => k_asm); (case k2 => k_asm); (case k3 => k_asm); (case k4 => k_asm); (case k5 => k_asm); (case k6 => k_is); (case k7 => k_is); (case k8 => ktr_room); (case k9 => exact binds_K (by k_in) rfl (by k_is) rfl rfl rfl); (case c5 => decide); (case kB => exact locs rfl); (case c2 => exact rfl); (case c3 => exact rfl); (case c4 => exact rfl); k_whole; intro g' L' h' FG' F' N' B' X' T'; (try dsimp only); (try k_lift B'); (try k_fold)))
local macro_rules | `(tactic| walk_at "no such key") => `(tactic| fail "no such key")
/-- the octets, or None where ValueError is due -/
def valO : Option (Array UInt8) → Tok → Value
  | none, _ => .none
  | some b, t => .bytes b t
def skipB (d : Array UInt8) (kind : Int) (det stays : Bool) : Bool := decide (kind = 0) || (det && isBin d) || stays
def wayO (d : Array UInt8) (kind : Int) (det stays : Bool) (made sf : Array UInt8) : Option (Array UInt8) :=
  if skipB d kind det stays = true then some d else if lostB d made sf = true then none else some made
def wayN (d : Array UInt8) (kind : Int) (det stays : Bool) : Int := if skipB d kind det stays = true then 0 else if kind = 2 then 1 else 0
abbrev tup2 (v u : Value) : Obj := { cls := .type "tuple", data := .seq [v, u].toArray }

/-- _law_way: a new pair -/
def CT (k : Nat) (w : World) (p : Program) (loose : List Str) (mean : ExcName → Option Value) (mg mb : Str → Option Value) (f : Addr) (news : List (Addr × Obj)) (pre : Prop) (vs : List Value) (X : Option (Array UInt8)) (n : Int) : Prop :=
  ∀ (dp un : Nat) (gd : Option (List Code)) (cn : Str) (cs : Scope) (a : Addr) (ccd : Value) (cl : List (Str × Addr)) (outer : List Env) (A₀ : Around) (base h₀ : Heap) (L : Addr) (m : Str → Option Value) (s : Shared) (Q E : Value → Shared → Prop),
    Below A₀ base outer h₀ → Fr h₀ L s.heap m → Frag.In (hd.heap_39 w.params) h₀ → News h₀ L s.heap news → Top p loose mean mg mb h₀ → cs.kind = .function → pre → dp + k < recursionLimit → un + 8 * k < cLine →
    (∀ (T : Addr) (t t' : Tok) (h' : Heap) (tk' : Nat), Fr h₀ L h' m → News h₀ L h' ((T, tup2 (valO X t) (.int n t')) :: news) → Q (.ref T) { s with heap := h', toks := tk' }) →
    wpAny (model PySem.Challenge.rw_at6009_01.row.prog w) (ktrTop dp un gd cn cs L a ccd cl outer) (call (.ref f) vs) Q E s
theorem way_ret {h₀ h' : Heap} {L T : Addr} {m : Str → Option Value} {news news' : List (Addr × Obj)} {s : Shared} {Q : Value → Shared → Prop} {X : Option (Array UInt8)} {n n' : Int} {v : Value} {t t' : Tok} {tk' : Nat}
    (hret : ∀ (T : Addr) (t t' : Tok) (h' : Heap) (tk' : Nat), Fr h₀ L h' m → News h₀ L h' ((T, tup2 (valO X t) (.int n t')) :: news) → Q (.ref T) { s with heap := h', toks := tk' })
    (F : Fr h₀ L h' m) (N : News h₀ L h' ((T, tup2 v (.int n' t')) :: news')) (hs : ∀ p ∈ news, p ∈ news') (e1 : v = valO X t) (e2 : n' = n) : Q (.ref T) { s with heap := h', toks := tk' } := by
  subst e1 e2
  refine hret T t t' h' tk' F fun p hp => ?_
  rcases List.mem_cons.mp hp with rfl | hp
  · exact N _ List.mem_cons_self
  · exact N p (List.mem_cons_of_mem _ (hs p hp))

set_option maxHeartbeats 8000000 in
theorem c_way (w : World) (p : Program) (loose : List Str) (mean : ExcName → Option Value) (mg mb : Str → Option Value) (news : List (Addr × Obj)) (b c sf : Array UInt8) (kind : Int) (det stays : Bool) (t u v x : Tok) :
    CT 5 w p loose mean mg mb 120 news (b.size ≤ 100000 ∧ c.size ≤ 100000) [.bytes b t, .int kind u, .bool det, .bool stays, .bytes c v, .bytes sf x] (wayO b kind det stays c sf) (wayN b kind det stays) := by
  unfold CT
  k_fill
  w_top off
  intro dp un gd cn cs a ccd cl outer A₀ base h₀ L m s Q E B F X N T hk hz hdp hu hret
  obtain ⟨hz1, hz2⟩ := hz
  have hz' : b.size ≤ 16777216 := by omega
  refine wpAny_call ?_
  k_dflt cell_enter
  k_steps
  all_goals first
    | (have e : wayO b kind det stays c sf = some b := by (simp [wayO, skipB, isBin, *]; done)
       have e2 : wayN b kind det stays = 0 := by (simp [wayN, skipB, isBin, *]; done)
       rw [e, e2] at hret
       exact way_ret hret (by assumption) (by assumption) (fun _ hp => hp) rfl rfl)
    | (have e : wayO b kind det stays c sf = some c := by (simp [wayO, skipB, isBin, *]; done)
       have e2 : wayN b kind det stays = 1 := by (simp [wayN, skipB, isBin, *]; done)
       rw [e, e2] at hret
       exact way_ret hret (by assumption) (by assumption) (fun _ hp => hp) rfl rfl)
    | (have e : wayO b kind det stays c sf = some c := by (simp [wayO, skipB, isBin, *]; done)
       have e2 : wayN b kind det stays = 0 := by (simp [wayN, skipB, isBin, *]; done)
       rw [e, e2] at hret
       exact way_ret hret (by assumption) (by assumption) (fun _ hp => hp) rfl rfl)
    | (have e : wayO b kind det stays c sf = none := by (simp [wayO, skipB, isBin, *]; done)
       have e2 : wayN b kind det stays = 1 := by (simp [wayN, skipB, isBin, *]; done)
       rw [e, e2] at hret
       exact way_ret (t := 0) hret (by assumption) (by assumption) (fun _ hp => hp) rfl rfl)
    | (have e : wayO b kind det stays c sf = none := by (simp [wayO, skipB, isBin, *]; done)
       have e2 : wayN b kind det stays = 0 := by (simp [wayN, skipB, isBin, *]; done)
       rw [e, e2] at hret
       exact way_ret (t := 0) hret (by assumption) (by assumption) (fun _ hp => hp) rfl rfl)
end Mine

namespace Mine
open PySem.Calls PyProof.V PySem.Spec Builtin
set_option maxRecDepth 100000

theorem b_and_t {p : Prop} [Decidable p] {b : Bool} (h : p) : Value.bool b = Value.bool (decide p && b) := by rw [decide_eq_true h]; rfl
theorem b_and_f {p : Prop} [Decidable p] {b : Bool} (h : ¬p) : Value.bool (decide p) = Value.bool (decide p && b) := by rw [decide_eq_false h]; rfl

def pickB (k : Int) (a b : Array UInt8) : Array UInt8 := if k = 1 then a else b
def MadeIs (k : Int) (a b : Array UInt8) (v : Value) : Prop := ∃ t, v = .bytes (pickB k a b) t
theorem made_a {k : Int} {a b : Array UInt8} {t : Tok} (h : k = 1) : MadeIs k a b (.bytes a t) := ⟨t, by rw [pickB, if_pos h]⟩
theorem made_b {k : Int} {a b : Array UInt8} {t : Tok} (h : ¬ k = 1) : MadeIs k a b (.bytes b t) := ⟨t, by rw [pickB, if_neg h]⟩
theorem pickB_size {k : Int} {a b : Array UInt8} {n : Nat} (ha : a.size ≤ n) (hb : b.size ≤ n) : (pickB k a b).size ≤ n := by
  unfold pickB; split <;> assumption

theorem CT.use {k : Nat} {w : World} {p : Program} {loose : List Str} {mean : ExcName → Option Value} {mg mb : Str → Option Value} {f : Addr} {news : List (Addr × Obj)} {pre : Prop} {vs : List Value} {Y : Option (Array UInt8)} {n : Int}
    {dp un : Nat} {gd : Option (List Code)} {cn : Str} {cs : Scope} {a : Addr} {ccd : Value} {cl : List (Str × Addr)} {outer : List Env} {A₀ : Around} {base h₀ : Heap} {L : Addr} {m : Str → Option Value} {s : Shared} {Q E : Value → Shared → Prop}
    (C : CT k w p loose mean mg mb f news pre vs Y n) (B : Below A₀ base outer h₀) (F : Fr h₀ L s.heap m) (X : Frag.In (hd.heap_39 w.params) h₀) (N : News h₀ L s.heap news) (T : Top p loose mean mg mb h₀) (hk : cs.kind = .function)
    (hp : pre) (hdp : dp + k < recursionLimit) (hu : un + 8 * k < cLine) (ret : ∀ (T : Addr) (t t' : Tok) (h' : Heap) (tk' : Nat), Fr h₀ L h' m → News h₀ L h' ((T, tup2 (valO Y t) (.int n t')) :: news) → Q (.ref T) { s with heap := h', toks := tk' }) :
    wpAny (model PySem.Challenge.rw_at6009_01.row.prog w) (ktrTop dp un gd cn cs L a ccd cl outer) (call (.ref f) vs) Q E s :=
  C dp un gd cn cs a ccd cl outer A₀ base h₀ L m s Q E B F X N T hk hp hdp hu ret
theorem CX.use {k : Nat} {w : World} {p : Program} {loose : List Str} {mean : ExcName → Option Value} {mg mb : Str → Option Value} {f : Addr} {news : List (Addr × Obj)} {pre : Prop} {vs : List Value} {lost : Bool}
    {dp un : Nat} {gd : Option (List Code)} {cn : Str} {cs : Scope} {a : Addr} {ccd : Value} {cl : List (Str × Addr)} {outer : List Env} {A₀ : Around} {base h₀ : Heap} {L : Addr} {m : Str → Option Value} {s : Shared} {Q E : Value → Shared → Prop}
    (C : CX k w p loose mean mg mb f news pre vs lost) (B : Below A₀ base outer h₀) (F : Fr h₀ L s.heap m) (X : Frag.In (hd.heap_39 w.params) h₀) (N : News h₀ L s.heap news) (T : Top p loose mean mg mb h₀) (hk : cs.kind = .function)
    (hp : pre) (hdp : dp + k < recursionLimit) (hu : un + 8 * k < cLine) (ret : lost = false → ∀ (h' : Heap) (tk' : Nat), Fr h₀ L h' m → News h₀ L h' news → Q .none { s with heap := h', toks := tk' })
    (rai : lost = true → ∀ (e : Addr) (g₂ h' : Heap) (tk' : Nat), Fr h₀ L g₂ m → g₂.UpToSlots h' → RaisedSN base g₂ (envX cn cs L a ccd cl :: outer) e (.type "ValueError") news h' → E (.ref e) { s with heap := h', toks := tk' }) :
    wpAny (model PySem.Challenge.rw_at6009_01.row.prog w) (ktrTop dp un gd cn cs L a ccd cl outer) (call (.ref f) vs) Q E s :=
  C dp un gd cn cs a ccd cl outer A₀ base h₀ L m s Q E B F X N T hk hp hdp hu ret rai

section
variable {prog : Program} {w : World} {A : Around} {E : Value → Shared → Prop} {s : Shared} {h₀ : Heap} {L l : Addr} {m : Str → Option Value} {news : List (Addr × Obj)} {Q : Value → Shared → Prop}
theorem ne_calls {a b : Addr} {vs us : List Value} {ps : List (Array UInt8)} (hl : s.heap.IsList a vs.toArray) (hi : BA vs ps) (hl' : s.heap.IsList b us.toArray) (hi' : BA us ps) (hu : A.units + 64 < cLine)
    (h : Q (.bool false) s) : wpAny (model prog w) A (compareOp .NotEq (.ref a) (.ref b)) Q E s := by
  have hr : compareOp .NotEq (.ref a) (.ref b) = richCompare .NotEq (.ref a) (.ref b) := by rfl
  rw [hr]
  refine PySem.SeqAt.RcNeAt.lists (e := fun _ => true) hl hl' (by simp [hi.length, hi'.length]) (by omega) (fun j h1 h2 => ?_) prog w E Q (by rw [List.all_eq_true.mpr (fun _ _ => rfl)]; exact h)
  have g1 : vs[j]? = some vs[j] := List.getElem?_eq_getElem (by simpa using h1)
  have g2 : us[j]? = some us[j] := List.getElem?_eq_getElem (by simpa using h2)
  obtain ⟨p, t, e1, e2⟩ := hi.get g1
  obtain ⟨q, u, e3, e4⟩ := hi'.get g2
  have e5 : p = q := by rw [e1] at e3; injection e3
  subst e5
  have e6 : vs.toArray[j] = Value.bytes p t := by simpa using e2
  have e7 : us.toArray[j] = Value.bytes p u := by simpa using e4
  rw [e6, e7]
  have := (eqg_bytes p p t u).at A.in1 s
  simpa using this
theorem ne_valO {X : Option (Array UInt8)} {t u : Tok} (h : Q (.bool false) s) : wpAny (model prog w) A (compareOp .NotEq (valO X t) (valO X u)) Q E s := by
  cases X with
  | none => exact EqNone.ne_none_none h
  | some b => exact ne_bytes (by simpa using h)
theorem mul_calls {d : Array UInt8} {t u : Tok} {n : Nat} {x : Int} (F : Fr h₀ L s.heap m) (N : News h₀ L s.heap news) (hm : (l, listOf [Value.bytes d t].toArray 0) ∈ news) (hx : x = (n : Int)) (hn : n ≤ 2)
    (h : ∀ D vs h', BA vs (List.replicate n d) → Fr h₀ L h' m → News h₀ L h' ((D, listOf vs.toArray 0) :: news) → (∀ p ∈ news, p.1 < D) → Q (.ref D) { s with heap := h' }) : wpAny (model prog w) A (binaryOp .Mult (.ref l) (.int x u)) Q E s := by
  subst hx
  refine PySem.W.KMa.mul F N (News.isList N hm) (by omega) (by omega) (by simp; omega) rfl fun D h' F' N' hl => h D _ h' ?_ F' N' hl
  rw [Int.toNat_natCast]
  clear h N hm hn N'
  induction n with
  | zero => exact .nil
  | succ n ih => rw [List.replicate_succ, List.replicate_succ]; exact (BA.one d t).append ih
end

/-- a cut at which the list at Lc grows -/
def MidL (h₀ : Heap) (L : Addr) (m : Str → Option Value) (Lc : Addr) (ds : List (Array UInt8)) (news : List (Addr × Obj)) (s : Shared) (P : Value → Prop) (v : Value) (s' : Shared) : Prop :=
  ∃ h' k us n, s' = { s with heap := h', toks := k } ∧ Fr h₀ L h' m ∧ BA us ds ∧ News h₀ L h' ((Lc, listOf us.toArray n) :: news) ∧ P v
section
variable {M : Model} {A : Around} {E : Value → Shared → Prop} {s : Shared} {h₀ : Heap} {L : Addr} {m : Str → Option Value} {news : List (Addr × Obj)}
theorem MidL.mk {Lc : Addr} {ds ds' : List (Array UInt8)} {us : List Value} {n : Nat} {P : Value → Prop} {v : Value} {h' : Heap} {k : Nat} {news' : List (Addr × Obj)} (F : Fr h₀ L h' m) (N : News h₀ L h' news') (hl : (Lc, listOf us.toArray n) ∈ news') (hs : ∀ p ∈ news, p ∈ news') (hb : BA us ds') (e : ds' = ds) (hp : P v) : MidL h₀ L m Lc ds news s P v { s with heap := h', toks := k } := by
  subst e
  exact ⟨h', k, us, n, rfl, F, hb, fun p hq => by
    rcases List.mem_cons.mp hq with rfl | hq
    · exact N _ hl
    · exact N p (hs p hq), hp⟩
theorem cutL {t : Sem Value} {Q : Value → Shared → Prop} (Lc : Addr) (ds : List (Array UInt8)) (P : Value → Prop) (_F : Fr h₀ L s.heap m) (_N : News h₀ L s.heap news) (walk : wpAny M A t (MidL h₀ L m Lc ds news s P) E s)
    (cont : ∀ v h' k us n, Fr h₀ L h' m → BA us ds → News h₀ L h' ((Lc, listOf us.toArray n) :: news) → P v → Q v { s with heap := h', toks := k }) : wpAny M A t Q E s :=
  wpAny_mono walk (fun v s' hv => by obtain ⟨h', k, us, n, rfl, F', hb, N', hp⟩ := hv; exact cont v h' k us n F' hb N' hp) fun _ _ e => e
end
def wayK (d : Array UInt8) (kind : Int) (det stays : Bool) : Nat := if skipB d kind det stays = true then 0 else if kind = 2 then 1 else 0
theorem wayN_K (d : Array UInt8) (kind : Int) (det stays : Bool) : wayN d kind det stays = (wayK d kind det stays : Int) := by
  unfold wayN wayK; split <;> (try split) <;> rfl
theorem wayK_le (d : Array UInt8) (kind : Int) (det stays : Bool) : wayK d kind det stays ≤ 1 := by
  unfold wayK; split <;> (try split) <;> decide
end Mine
namespace Mine
section
variable {h₀ h : Heap} {L : Addr} {a b c : Addr × Obj} {l : List (Addr × Obj)}
theorem tail1 (N : News h₀ L h (a :: l)) : News h₀ L h l := fun p hp => N p (List.mem_cons_of_mem _ hp)
theorem del3 (N : News h₀ L h (a :: b :: c :: l)) : News h₀ L h (a :: b :: l) := fun p hp => by
  rcases List.mem_cons.mp hp with rfl | hp
  · exact N _ List.mem_cons_self
  · rcases List.mem_cons.mp hp with rfl | hp
    · exact N _ (List.mem_cons_of_mem _ List.mem_cons_self)
    · exact N p (List.mem_cons_of_mem _ (List.mem_cons_of_mem _ (List.mem_cons_of_mem _ hp)))
end
end Mine
namespace Mine
open PySem PySem.W PySem.Calls PyProof.Rows PyProof.V
theorem nof_bool : typeLookup (.type "function") (Str.ofString "__bool__") = pure none := by rw [typeLookup_type, builtinLookup_eq_fast]; kernel_rfl
theorem nof_len : typeLookup (.type "function") (Str.ofString "__len__") = pure none := by rw [typeLookup_type, builtinLookup_eq_fast]; kernel_rfl
section
variable {M : Model} {A : Around} {E : Value → Shared → Prop} {s : Shared} {K : Frag} {f : Addr} {o : Obj}
theorem truthy_def {Q : Bool → Shared → Prop} (X : K.In s.heap) (hl : K.lookup f = some o) (hc : o.cls = .type "function") (h : Q true s) : wpAny M A (truthy (.ref f)) Q E s := by
  have hT : s.TypeIs (.ref f) "function" := ⟨o, X _ _ hl, hc⟩
  unfold truthy
  refine wpAny_bind (m := callSpecial? (.ref f) (Str.ofString "__bool__")) (wpAny_callSpecial?_none hT nof_bool ?_)
  refine wpAny_bind (wpAny_specialOf hT nof_len ?_)
  exact wpAny_pure h
end
end Mine

namespace Mine
open PySem.Calls PyProof.V PySem.Spec Builtin
set_option maxRecDepth 100000

/-- what a call of the law's own conversion at f does: it notes the octets in the list at Lc and gives ans; the objects of own stand in the ledger -/
def OwnOK (w : World) (p : Program) (loose : List Str) (mean : ExcName → Option Value) (mg mb : Str → Option Value) (f Lc : Addr) (ans : Array UInt8) (own : List (Addr × Obj)) : Prop :=
  ∀ (dp un : Nat) (gd : Option (List Code)) (cn : Str) (cs : Scope) (a : Addr) (ccd : Value) (cl : List (Str × Addr)) (outer : List Env) (A₀ : Around) (base h₀ : Heap) (L : Addr) (m : Str → Option Value) (s : Shared) (Q E : Value → Shared → Prop)
    (us : List Value) (n : Nat) (b : Array UInt8) (t : Tok) (news : List (Addr × Obj)),
    Below A₀ base outer h₀ → Fr h₀ L s.heap m → Frag.In (hd.heap_39 w.params) h₀ → News h₀ L s.heap ((Lc, listOf us.toArray n) :: news) → Top p loose mean mg mb h₀ → cs.kind = .function →
    (∀ e ∈ own, e ∈ news) → (∀ e ∈ news, e.1 ≠ Lc) → us.length ≤ 100 → dp + 1 < recursionLimit → un + 8 * 1 < cLine →
    (∀ (u t' : Tok) (n' : Nat) (h' : Heap) (tk' : Nat), Fr h₀ L h' m → News h₀ L h' ((Lc, listOf (us ++ [Value.bytes b u]).toArray n') :: news) → Q (.bytes ans t') { s with heap := h', toks := tk' }) →
    wpAny (model PySem.Challenge.rw_at6009_01.row.prog w) (ktrTop dp un gd cn cs L a ccd cl outer) (call (.ref f) [Value.bytes b t]) Q E s

theorem OwnOK.use0 {w : World} {p : Program} {loose : List Str} {mean : ExcName → Option Value} {mg mb : Str → Option Value} {f Lc : Addr} {ans : Array UInt8} {own : List (Addr × Obj)}
    {dp un : Nat} {gd : Option (List Code)} {cn : Str} {cs : Scope} {a : Addr} {ccd : Value} {cl : List (Str × Addr)} {outer : List Env} {A₀ : Around} {base h₀ : Heap} {L : Addr} {m : Str → Option Value} {s : Shared} {Q E : Value → Shared → Prop}
    {us : List Value} {n : Nat} {b : Array UInt8} {t : Tok} {news : List (Addr × Obj)}
    (C : OwnOK w p loose mean mg mb f Lc ans own) (B : Below A₀ base outer h₀) (F : Fr h₀ L s.heap m) (X : Frag.In (hd.heap_39 w.params) h₀) (N : News h₀ L s.heap ((Lc, listOf us.toArray n) :: news)) (T : Top p loose mean mg mb h₀) (hk : cs.kind = .function)
    (ho : ∀ e ∈ own, e ∈ news) (hne : ∀ e ∈ news, e.1 ≠ Lc) (hl : us.length ≤ 100) (hdp : dp + 1 < recursionLimit) (hu : un + 8 * 1 < cLine)
    (ret : ∀ (u t' : Tok) (n' : Nat) (h' : Heap) (tk' : Nat), Fr h₀ L h' m → News h₀ L h' ((Lc, listOf (us ++ [Value.bytes b u]).toArray n') :: news) → Q (.bytes ans t') { s with heap := h', toks := tk' }) :
    wpAny (model PySem.Challenge.rw_at6009_01.row.prog w) (ktrTop dp un gd cn cs L a ccd cl outer) (call (.ref f) [Value.bytes b t]) Q E s :=
  C dp un gd cn cs a ccd cl outer A₀ base h₀ L m s Q E us n b t news B F X N T hk ho hne hl hdp hu ret

section
variable {prog : Program} {w : World} {A₀ A : Around} {s : Shared} {h₀ g g' h h' : Heap} {L L' : Addr} {m m' mg mb : Str → Option Value} {env : Env} {news news' : List (Addr × Obj)} {K : Frag} {p : Program} {loose : List Str} {mean : ExcName → Option Value}
theorem back_turn (hf : env.frame = some L) (FG : Fr h₀ L g m) (T : KtsTurn ([env].filterMap (·.frame)) g g') (F' : Fr g' L' h' m') (N' : News g' L' h' news') : Fr h₀ L h' m ∧ News h₀ L h' news' := by
  obtain ⟨oL, es, ep, hLg, hLd, hLk, hLf⟩ := FG.ns
  obtain ⟨sl, hs⟩ := T.up hLg
  have nL₀ : h₀.get? L = none := kts_self FG
  have hfs : ∀ b, b ∈ [env].filterMap (·.frame) → b = L := fun b hb => by simpa [hf] using hb
  refine ⟨⟨⟨_, es, ep, F'.keep _ _ hs, hLd, hLk, hLf⟩, fun b o e => F'.keep b o (T.other b o (FG.keep b o e) (fun q => by
    rw [hfs b q, nL₀] at e
    cases e)), FG.above⟩, fun p hp => ⟨(N' p hp).1, fun q => ?_, ?_⟩⟩
  · have z := (N' p hp).2.2
    rw [q, hs] at z
    cases z
  · cases q : h₀.get? p.1 with
    | none => rfl
    | some o =>
      obtain ⟨sl', hs'⟩ := T.up (FG.keep _ _ q)
      have z := (N' p hp).2.2
      rw [hs'] at z
      cases z
theorem code_defT {R : Result → Shared → Prop} {name qual : Str} {params : Arguments} {body : List Stmt} {scope : Scope} {dV kV doc pm cdv ct oc : Value} {an od : Option Addr} {osl : Array (Option Value)} {f : Addr} {args : Args} {binds : List (Str × Value)}
    (B : Below A₀ h₀ [] h₀) (F : Fr h₀ L s.heap m) (X₀ : K.In h₀) (N : News h₀ L s.heap news) (T : Top p loose mean mg mb h₀) (hA : A.frames = some [env]) (hf : env.frame = some L) (hke : env.scope.kind = .function)
    (ho : K.lookup f = some ⟨oc, od, .func (fnOf name qual params body scope dV kV doc pm an cdv ct), osl⟩) (hcd : codeIn K cdv qual = true) (hroom : A.depth < recursionLimit)
    (hbind : BindsTo s (fnOf name qual params body scope dV kV doc pm an cdv ct) args binds) (hloc : ∀ y ∈ binds, scope.names.lookup y.1 = some .local)
    (h : ∀ g L' h₁, Fr h₀ L g m → Fr g L' h₁ (fun y => binds.reverse.lookup y) → News g L' h₁ news → Below A h₀ [env] g → K.In g → Top p loose mean mg mb g → KtsDicts ([env].filterMap (·.frame)) g →
      wpAny (model prog w) (A.deeper (envOf qual scope L' f cdv)) (execs body (envOf qual scope L' f cdv))
        (fun fl s' => LeaveS0 ([env].filterMap (·.frame)) h₀ L m g R (match fl with | .ret v => v | _ => .none) s')
        (fun e s' => wpAny (model prog w) (A.deeper (envOf qual scope L' f cdv)) (leaving (envOf qual scope L' f cdv) e) (fun _ s'' => R (.error e) s'') (fun e' s'' => R (.error e') s'') s')
        { s with heap := h₁, toks := s.toks + binds.length })
    (hco : scope.isCoroutine = false) (hgen : scope.isGenerator = false) (hk : scope.kind = .function)
    (hcell : ∀ x ∈ scope.names, x.2 ≠ .cell) : codeAny (model prog w) A (.call (.ref f) args) R s := by
  obtain ⟨FG, BG, st, _⟩ := groundX (R := R) B F N hA hf hke
  have X := X₀.keeps F.keep
  refine codeAny_call_def (fd := fnOf name qual params body scope dV kV doc pm an cdv ct) (body := body) (binds := binds) hroom (X _ _ ho) rfl (T.nolimit.keeps F.keep) (codeRec_of X hcd) rfl hbind hcell hloc (fun h₁ hns hk₁ => ?_) hco hgen hk
  refine wpAny_mono (h _ s.heap.objs.size h₁ FG ⟨hns, fun b o e => hk₁ b o (of_hideAll _ e), Nat.le_of_eq (hideAll_size _ _)⟩
    (fun p hp => ⟨hk₁ _ _ (N p hp).1, Nat.ne_of_lt (Heap.lt_size (N p hp).1), hideAll_none _ (List.mem_map_of_mem hp)⟩) BG (X₀.keeps st) (T.keeps st) (fun b hb => ?_)) (fun fl s' hl => ?_) fun _ _ y => y
  · obtain ⟨oL, es, ep, hLg, hLd, _, _⟩ := FG.ns
    have e : b = L := by simpa [hf] using hb
    rw [e]
    exact ⟨oL, es, ep, hLg, hLd⟩
  · obtain ⟨g', L', m', news', T', F', N', k⟩ := hl
    have z := back_turn hf FG T' F' N'
    exact k z.1 z.2
end

theorem lost_false {d m sf : Array UInt8} (h : (sf.toList != (#[102, 97, 108, 115, 101] : Array UInt8).toList) = false) : lostB d m sf = false := by
  have e : sf.toList = [102, 97, 108, 115, 101] := by simpa using h
  simp [lostB, e]

/-- a call that asks a filter: the answer X, the octets g newly noted -/
def CY (k : Nat) (w : World) (p : Program) (loose : List Str) (mean : ExcName → Option Value) (mg mb : Str → Option Value) (f Lc : Addr) (news : List (Addr × Obj)) (us : List Value) (ds g : List (Array UInt8)) (vs : List Value) (X : Option (Array UInt8)) : Prop :=
  ∀ (dp un : Nat) (gd : Option (List Code)) (cn : Str) (cs : Scope) (a : Addr) (ccd : Value) (cl : List (Str × Addr)) (A₀ : Around) (h₀ : Heap) (L : Addr) (m : Str → Option Value) (s : Shared) (Q E : Value → Shared → Prop) (n : Nat),
    Below A₀ h₀ [] h₀ → Fr h₀ L s.heap m → Frag.In (hd.heap_39 w.params) h₀ → News h₀ L s.heap ((Lc, listOf us.toArray n) :: news) → Top p loose mean mg mb h₀ → cs.kind = .function →
    BA us ds → (∀ e ∈ news, e.1 ≠ Lc) → us.length ≤ 100 → dp + k < recursionLimit → un + 8 * k < cLine →
    (∀ (us' : List Value) (n' : Nat) (t : Tok) (h' : Heap) (tk' : Nat), BA us' (ds ++ g) → Fr h₀ L h' m → News h₀ L h' ((Lc, listOf us'.toArray n') :: news) → Q (valO X t) { s with heap := h', toks := tk' }) →
    wpAny (model PySem.Challenge.rw_at6009_01.row.prog w) (ktrTop dp un gd cn cs L a ccd cl []) (call (.ref f) vs) Q E s
abbrev entsOf (w : World) (t1 t2 t3 t4 t5 t6 t7 : Tok) (cv sv : Value) (det : Bool) (sf : Array UInt8) (only : Bool) (iv : Value) : List DictEntry :=
  [{ hash := PyData.keyHash w.params (Str.ofString "clean_conversion"), key := .str (Str.ofString "clean_conversion") t1, val := cv },
   { hash := PyData.keyHash w.params (Str.ofString "smudge_conversion"), key := .str (Str.ofString "smudge_conversion") t2, val := sv },
   { hash := PyData.keyHash w.params (Str.ofString "binary_detection"), key := .str (Str.ofString "binary_detection") t3, val := .bool det },
   { hash := PyData.keyHash w.params (Str.ofString "safecrlf"), key := .str (Str.ofString "safecrlf") t4, val := .bytes sf t7 },
   { hash := PyData.keyHash w.params (Str.ofString "require_lf_only"), key := .str (Str.ofString "require_lf_only") t5, val := .bool only },
   { hash := PyData.keyHash w.params (Str.ofString "index_has_crlf"), key := .str (Str.ofString "index_has_crlf") t6, val := iv }]
theorem cy_end {h₀ h' : Heap} {L Lc : Addr} {m : Str → Option Value} {news news' : List (Addr × Obj)} {us' : List Value} {ds g ds' : List (Array UInt8)} {s : Shared} {Q : Value → Shared → Prop} {X : Option (Array UInt8)} {n' : Nat} {v : Value} {t : Tok} {tk' : Nat}
    (hret : ∀ (us' : List Value) (n' : Nat) (t : Tok) (h' : Heap) (tk' : Nat), BA us' (ds ++ g) → Fr h₀ L h' m → News h₀ L h' ((Lc, listOf us'.toArray n') :: news) → Q (valO X t) { s with heap := h', toks := tk' })
    (F : Fr h₀ L h' m) (N : News h₀ L h' news') (hb : BA us' ds') (hm : (Lc, listOf us'.toArray n') ∈ news') (hs : ∀ p ∈ news, p ∈ news') (e1 : v = valO X t) (e2 : ds' = ds ++ g) : Q v { s with heap := h', toks := tk' } := by
  subst e1 e2
  exact hret us' n' t h' tk' hb F fun p hp => by
    rcases List.mem_cons.mp hp with rfl | hp
    · exact N _ hm
    · exact N _ (hs p hp)
end Mine

namespace Mine
open PySem.Calls PyProof.V PySem.Spec Builtin
set_option maxRecDepth 100000
def DueIs (k : Int) (d a b : Array UInt8) (v : Value) : Prop := ∃ t, v = valO (wayO d k true false (pickB k a b) #[102, 97, 108, 115, 101]) t
theorem lost_ff (d m : Array UInt8) : lostB d m #[102, 97, 108, 115, 101] = false := lost_false (by rfl)
theorem due_0 {k : Int} {d a b : Array UInt8} {t : Tok} (h : k = 0) : DueIs k d a b (.bytes d t) := ⟨t, by simp [wayO, skipB, h, valO]⟩
theorem due_b {k : Int} {d a b : Array UInt8} {t : Tok} (h : isBin d = true) : DueIs k d a b (.bytes d t) := ⟨t, by simp [wayO, skipB, h, valO]⟩
theorem due_1 {k : Int} {d a b : Array UInt8} {t : Tok} (hb : isBin d = false) (h : k = 1) : DueIs k d a b (.bytes a t) := ⟨t, by simp [wayO, skipB, h, hb, valO, pickB, lost_ff]⟩
theorem due_2 {k : Int} {d a b : Array UInt8} {t : Tok} (h0 : ¬ k = 0) (hb : isBin d = false) (h : ¬ k = 1) : DueIs k d a b (.bytes b t) := ⟨t, by simp [wayO, skipB, h, h0, hb, valO, pickB, lost_ff]⟩
theorem eq_valO {prog : Program} {w : World} {A : Around} {E : Value → Shared → Prop} {s : Shared} {Q : Value → Shared → Prop} {X : Option (Array UInt8)} {t u : Tok} (h : Q (.bool true) s) : wpAny (model prog w) A (compareOp .Eq (valO X t) (valO X u)) Q E s := by
  cases X with
  | none => exact EqNone.eq_none_none h
  | some b => exact eq_bytes (by simpa using h)
theorem ite_ne {a b : Int} {P Q : Prop} (h : a = b) (q : Q) : if (a != b) = true then P else Q := by
  subst h
  simpa using q
theorem CY.use {k : Nat} {w : World} {p : Program} {loose : List Str} {mean : ExcName → Option Value} {mg mb : Str → Option Value} {f Lc : Addr} {news news' : List (Addr × Obj)} {us : List Value} {ds g : List (Array UInt8)} {vs : List Value} {X : Option (Array UInt8)}
    {dp un : Nat} {gd : Option (List Code)} {cn : Str} {cs : Scope} {a : Addr} {ccd : Value} {cl : List (Str × Addr)} {A₀ : Around} {h₀ : Heap} {L : Addr} {m : Str → Option Value} {s : Shared} {Q E : Value → Shared → Prop} {n : Nat}
    (C : CY k w p loose mean mg mb f Lc news us ds g vs X) (B : Below A₀ h₀ [] h₀) (F : Fr h₀ L s.heap m) (X₀ : Frag.In (hd.heap_39 w.params) h₀) (N : News h₀ L s.heap news') (T : Top p loose mean mg mb h₀) (hk : cs.kind = .function)
    (hm : (Lc, listOf us.toArray n) ∈ news') (hs : ∀ e ∈ news, e ∈ news') (hb : BA us ds) (hne : ∀ e ∈ news, e.1 ≠ Lc) (hl : us.length ≤ 100) (hdp : dp + k < recursionLimit) (hu : un + 8 * k < cLine)
    (ret : ∀ (us' : List Value) (n' : Nat) (t : Tok) (h' : Heap) (tk' : Nat), BA us' (ds ++ g) → Fr h₀ L h' m → News h₀ L h' ((Lc, listOf us'.toArray n') :: news) → Q (valO X t) { s with heap := h', toks := tk' }) :
    wpAny (model PySem.Challenge.rw_at6009_01.row.prog w) (ktrTop dp un gd cn cs L a ccd cl []) (call (.ref f) vs) Q E s :=
  C dp un gd cn cs a ccd cl A₀ h₀ L m s Q E n B F X₀ (fun e he => by
    rcases List.mem_cons.mp he with rfl | he
    · exact N _ hm
    · exact N _ (hs e he)) T hk hb hne hl hdp hu ret
theorem CY.use0 {k : Nat} {w : World} {p : Program} {loose : List Str} {mean : ExcName → Option Value} {mg mb : Str → Option Value} {f Lc : Addr} {news : List (Addr × Obj)} {us : List Value} {ds g : List (Array UInt8)} {vs : List Value} {X : Option (Array UInt8)}
    {dp un : Nat} {gd : Option (List Code)} {cn : Str} {cs : Scope} {a : Addr} {ccd : Value} {cl : List (Str × Addr)} {A₀ : Around} {h₀ : Heap} {L : Addr} {m : Str → Option Value} {s : Shared} {Q E : Value → Shared → Prop} {n : Nat}
    (N : News h₀ L s.heap ((Lc, listOf us.toArray n) :: news)) (C : CY k w p loose mean mg mb f Lc news us ds g vs X) (B : Below A₀ h₀ [] h₀) (F : Fr h₀ L s.heap m) (X₀ : Frag.In (hd.heap_39 w.params) h₀) (T : Top p loose mean mg mb h₀) (hk : cs.kind = .function)
    (hb : BA us ds) (hne : ∀ e ∈ news, e.1 ≠ Lc) (hl : us.length ≤ 100) (hdp : dp + k < recursionLimit) (hu : un + 8 * k < cLine)
    (ret : ∀ (us' : List Value) (n' : Nat) (t : Tok) (h' : Heap) (tk' : Nat), BA us' (ds ++ g) → Fr h₀ L h' m → News h₀ L h' ((Lc, listOf us'.toArray n') :: news) → Q (valO X t) { s with heap := h', toks := tk' }) :
    wpAny (model PySem.Challenge.rw_at6009_01.row.prog w) (ktrTop dp un gd cn cs L a ccd cl []) (call (.ref f) vs) Q E s :=
  C dp un gd cn cs a ccd cl A₀ h₀ L m s Q E n B F X₀ N T hk hb hne hl hdp hu ret
theorem with_own {w : World} {p : Program} {loose : List Str} {mean : ExcName → Option Value} {mg mb : Str → Option Value} {h₀ h : Heap} {L : Addr} {news : List (Addr × Obj)} {A : Around} {α : Type} {t : Sem α} {Q : α → Shared → Prop} {E : Value → Shared → Prop} {s : Shared}
    (f c a3 a4 Lc : Addr) (o1 o2 o3 o4 : Obj) (ans : Array UInt8) (_N : News h₀ L h news) (_T : Top p loose mean mg mb h₀) (_m1 : (f, o1) ∈ news) (_m2 : (c, o2) ∈ news) (_m3 : (a3, o3) ∈ news) (_m4 : (a4, o4) ∈ news)
    (hO : OwnOK w p loose mean mg mb f Lc ans [(f, o1), (c, o2), (a3, o3), (a4, o4)]) (k : OwnOK w p loose mean mg mb f Lc ans [(f, o1), (c, o2), (a3, o3), (a4, o4)] → wpAny (model PySem.Challenge.rw_at6009_01.row.prog w) A t Q E s) : wpAny (model PySem.Challenge.rw_at6009_01.row.prog w) A t Q E s := k hO
/-- the list at the head grows by one -/
theorem append_H {prog : Program} {w : World} {A : Around} {E : Value → Shared → Prop} {s : Shared} {h₀ : Heap} {L Lc : Addr} {m : Str → Option Value} {news : List (Addr × Obj)} {us : List Value} {n : Nat} {x : Value} {Q : Value → Shared → Prop}
    (F : Fr h₀ L s.heap m) (N : News h₀ L s.heap ((Lc, listOf us.toArray n) :: news)) (hne : ∀ e ∈ news, e.1 ≠ Lc) (hz : us.length ≤ 100)
    (h : ∀ h' k n', Fr h₀ L h' m → News h₀ L h' ((Lc, listOf (us ++ [x]).toArray n') :: news) → Q .none { s with heap := h', toks := k }) :
    wpAny (model prog w) A (call (.builtin "list.append") [.ref Lc, x]) Q E s :=
  append_K F N (Upd.head fun p hp e => hne p hp e) (fun h' F' N' => h h' _ _ F' (by simpa using N')) (by rw [List.size_toArray, sizeLine_eq]; omega)
end Mine

namespace Mine
open PySem.Calls PyProof.V PySem.Spec Builtin
set_option maxRecDepth 100000
local macro_rules | `(tactic| walk_at "compareOp In bytes bytes") => `(tactic| (k_here; (with_reducible show wpAny _ _ (compareOp CmpOp.In (Value.bytes _ _) (Value.bytes _ _)) _ _ _); k_dflt (refine' in_K ?mF ?mN ?mh ?_; (case mF => k_asm); (case mN => k_asm); (case mh => exact rfl)); intro _ _ F' N'; (try k_sweep)))
local macro_rules | `(tactic| walk_at "compareOp NotIn bytes bytes") => `(tactic| (k_here; (with_reducible show wpAny _ _ (compareOp CmpOp.NotIn (Value.bytes _ _) (Value.bytes _ _)) _ _ _); k_dflt (refine' notIn_K ?mF ?mN ?mh ?_; (case mF => k_asm); (case mN => k_asm); (case mh => exact rfl)); intro _ _ F' N'; (try k_sweep)))
local macro_rules | `(tactic| walk_at "subscriptTail") => `(tactic| (k_here; (with_reducible show wpAny _ _ (subscriptTail _ (Expr.Slice _ _ none _) (Value.bytes _ _) (Value.ref _)) _ _ _); (with_reducible rename Fr _ _ _ _ => F'); (with_reducible rename News _ _ _ _ => N'); (refine slice_B (s := ⟨_, _, _, _, _⟩) F' N' (by constructor) (by constructor) (by first | assumption | omega) ?_); intro _ _ _ F' N'))
local macro_rules | `(tactic| walk_at "getMethod bytes") => `(tactic| (k_here; (with_reducible first | refine m_join ?_ | refine m_replace ?_ | refine m_split ?_ | refine m_endswith ?_)))
local macro_rules | `(tactic| walk_at "call builtin:bytes.endswith") => `(tactic| (k_here; refine endswith_K ?_))
local macro_rules | `(tactic| walk_at "call builtin:bytes.split") => `(tactic| (k_here; k_dflt (refine' split_K ?mF ?mN ?mo ?mz ?mn ?_; (case mF => k_asm); (case mN => k_asm); (case mo => rfl); (case mz => exact fun p hp => Nat.le_trans (rows_size _ p hp) (by rw [sizeLine_eq]; omega)); (case mn => exact Nat.le_trans (rows_len _) (by rw [sizeLine_eq]; omega))); intro l' h' vs' _ F' N' l1 hBA'; (try k_lt l1); (try k_sweep)))
local macro_rules | `(tactic| walk_at "subscriptTail") => `(tactic| (k_here; (with_reducible show wpAny _ _ (subscriptTail _ (Expr.Slice none (some _) none _) (Value.ref _) (Value.ref _)) _ _ _); (with_reducible rename Fr _ _ _ _ => F'); (with_reducible rename News _ _ _ _ => N'); (with_reducible rename BA _ _ => hBA'); (refine slice_init (s := ⟨_, _, _, _, _⟩) F' N' (by k_mem) hBA' (Nat.le_trans (rows_len _) (by omega)) ?_); intro D' ws' h' F' N' l1 hBA'; (try k_lt l1); (try k_sweep)))
local macro_rules | `(tactic| walk_at "subscriptTail") => `(tactic| (k_here; (with_reducible show wpAny _ _ (subscriptTail _ (Expr.Slice (some _) none none _) (Value.ref _) (Value.ref _)) _ _ _); (with_reducible rename Fr _ _ _ _ => F'); (with_reducible rename News _ _ _ _ => N'); (refine slice_last (s := ⟨_, _, _, _, _⟩) F' N' (by k_mem) (by assumption) (Nat.le_trans (rows_len _) (by omega)) ?_); intro D' ws' h' F' N' l1 hBA'; (try k_lt l1); (try k_sweep)))
local macro_rules | `(tactic| walk_at "eval ListComp") => `(tactic| (k_here; (with_reducible rename BA _ _ => hBA'); k_dflt (refine LCg.ListComp_U (F₀ := by k_asm) (by with_unfolding_all rfl) (by decide) (by rfl) (by decide) (by rfl) ?_)))
local macro_rules | `(tactic| walk_at "CompSrc") => `(tactic| (k_here; (with_reducible rename BA _ _ => hBA'); k_dflt (refine LCg.CompSrc.ledger (by rfl) (by k_asm) (by k_asm) (by k_mem) (by rw [List.size_toArray, hBA'.length, sizeLine_eq, List.length_dropLast]; exact Nat.le_trans (Nat.sub_le _ _) (Nat.le_trans (rows_len _) (by omega))) ?_; intro g'; (refine' kcb_list chopB hBA' (fun p' t' I' oI' C' oC' D' m' ys' h' tk' E' hk' hC' hx' F' N' off' ne' => (Mine.withSize (Nat.le_trans (rows_size _ p' (List.dropLast_subset _ hk')) (by omega)) (fun hps' => ?_))) (fun ys' hBA' => ?_)); (all_goals (try (simp only [LCg.Off3, and_true] at off'))); (all_goals (try k_fold)))))
local macro_rules | `(tactic| walk_at "CompEnd") => `(tactic| (refine LCg.CompEnd.intro (by assumption) (by assumption) _ (fun _ hp => hp) (by first | assumption | (simp only [LCg.Off3, and_true]; assumption)) (by lcg_src) (el_of ?_); first | exact chop_pos (by assumption) | exact chop_neg (by assumption) | exact chop_neg (ne_true_of_eq_false (by assumption))))
local macro_rules | `(tactic| walk_at "binaryOp Add ref ref") => `(tactic| (k_here; (with_reducible show wpAny _ _ (binaryOp _ (Value.ref _) (Value.ref _)) _ _ _); k_dflt (refine' add_BA ?F ?N ?a ?b ?i ?j ?z ?_; (case F => k_asm); (case N => k_asm); (case a => k_mem); (case b => k_mem); (case i => assumption); (case j => assumption); (case z => exact sum_len _ (by omega))); intro D' us' h' F' N' l1 hBA'; (try k_lt l1); (try k_sweep)))
local macro_rules | `(tactic| walk_at "call builtin:bytes.join") => `(tactic| (k_here; k_dflt (first | refine' join_down ?l ?b ?z ?_ | refine' join_up ?l ?b ?z ?_); (case l => exact News.isList (by k_asm) (by k_mem)); (case b => assumption); (case z => omega); intro _ _))
local macro_rules | `(tactic| walk_at "call builtin:bytes.replace") => `(tactic| (k_here; k_dflt (refine' replace_down ?z ?_; (case z => omega)); intro _ _))
local macro_rules | `(tactic| walk_at "compareOp In bytes ref") => `(tactic| (k_here; (with_reducible show wpAny _ _ (compareOp CmpOp.In (Value.bytes _ _) (Value.ref _)) _ _ _); k_dflt (refine' in_tup2 ?mN ?mm ?_; (case mN => k_asm); (case mm => k_mem))))
local macro_rules | `(tactic| walk_at "call builtin:bytes.decode") => `(tactic| (k_here; (refine decode_p ?_); intro _ _))
local macro_rules | `(tactic| walk_at "call ref") => `(tactic| (k_here; (with_reducible show wpAny _ _ (call (Value.ref 21) [Value.bytes _ _]) _ _ _); k_dflt (refine' CR.use (c_isbin _ _ _ _ _ _ _ _ _) ?k1 ?k2 ?k3 ?k4 ?k5 ?kK ?kp ?kd ?ku ?_; (case k1 => k_asm); (case k2 => k_asm); (case k3 => k_asm); (case k4 => k_asm); (case k5 => k_asm); (case kK => first | exact rfl | assumption); (case kp => first | with_reducible assumption | omega); (case kd => ktr_room); (case ku => ktr_units)); intro _ _ _ F' N'; (try dsimp only); (try k_sweep)))
local macro_rules | `(tactic| walk_at "call ref") => `(tactic| (k_here; (with_reducible show wpAny _ _ (call (Value.ref 101) [Value.bytes _ _]) _ _ _); k_dflt (refine' CR.use (c_down _ _ _ _ _ _ _ _ _) ?k1 ?k2 ?k3 ?k4 ?k5 ?kK ?kp ?kd ?ku ?_; (case k1 => k_asm); (case k2 => k_asm); (case k3 => k_asm); (case k4 => k_asm); (case k5 => k_asm); (case kK => first | exact rfl | assumption); (case kp => first | with_reducible assumption | omega); (case kd => ktr_room); (case ku => ktr_units)); intro _ _ _ F' N'; (try dsimp only); (try k_sweep)))
local macro_rules | `(tactic| walk_at "call ref") => `(tactic| (k_here; (with_reducible show wpAny _ _ (call (Value.ref 106) [Value.bytes _ _]) _ _ _); k_dflt (refine' CR.use (c_up _ _ _ _ _ _ _ _ _) ?k1 ?k2 ?k3 ?k4 ?k5 ?kK ?kp ?kd ?ku ?_; (case k1 => k_asm); (case k2 => k_asm); (case k3 => k_asm); (case k4 => k_asm); (case k5 => k_asm); (case kK => first | exact rfl | assumption); (case kp => first | with_reducible assumption | omega); (case kd => ktr_room); (case ku => ktr_units)); intro _ _ _ F' N'; (try dsimp only); (try k_sweep)))
local macro_rules | `(tactic| walk_at "call ref") => `(tactic| (k_here; (with_reducible show wpAny _ _ (call (Value.ref 73) [Value.bytes _ _]) _ _ _); k_dflt (refine' CR.use (c_crlf _ _ _ _ _ _ _ _ _) ?k1 ?k2 ?k3 ?k4 ?k5 ?kK ?kp ?kd ?ku ?_; (case k1 => k_asm); (case k2 => k_asm); (case k3 => k_asm); (case k4 => k_asm); (case k5 => k_asm); (case kK => first | exact rfl | assumption); (case kp => first | with_reducible assumption | omega); (case kd => ktr_room); (case ku => ktr_units)); intro _ _ _ F' N'; (try dsimp only); (try k_sweep)))
local macro_rules | `(tactic| walk_at "call ref") => `(tactic| (k_here; (with_reducible show wpAny _ _ (call (Value.ref 80) [Value.bytes _ _]) _ _ _); k_dflt (refine' CR.use (c_lf _ _ _ _ _ _ _ _ _) ?k1 ?k2 ?k3 ?k4 ?k5 ?kK ?kp ?kd ?ku ?_; (case k1 => k_asm); (case k2 => k_asm); (case k3 => k_asm); (case k4 => k_asm); (case k5 => k_asm); (case kK => first | exact rfl | assumption); (case kp => first | with_reducible assumption | omega); (case kd => ktr_room); (case ku => ktr_units)); intro _ _ _ F' N'; (try dsimp only); (try k_sweep)))
local macro_rules | `(tactic| walk_at "call ref") => `(tactic| (k_here; (with_reducible show wpAny _ _ (call (Value.ref 113) [Value.bytes _ _, Value.bytes _ _, Value.bytes _ _]) _ _ _); k_dflt (refine' CR.use (c_lost _ _ _ _ _ _ _ _ _ _ _ _ _) ?k1 ?k2 ?k3 ?k4 ?k5 ?kK ?kp ?kd ?ku ?_; (case k1 => k_asm); (case k2 => k_asm); (case k3 => k_asm); (case k4 => k_asm); (case k5 => k_asm); (case kK => first | exact rfl | assumption); (case kp => refine ⟨?_, ?_⟩ <;> first | with_reducible assumption | omega); (case kd => ktr_room); (case ku => ktr_units)); intro _ _ _ F' N'; (try dsimp only); (try k_sweep)))
local macro_rules | `(tactic| cell_enter) => `(tactic| (refine' code_def ?k1 ?k2 ?k3 ?k4 ?k5 ?kA ?kF ?kK ?k6 ?k7 ?k8 ?k9 ?kB ?_ ?c2 ?c3 ?c4 ?c5; (case kA => exact rfl); (case kF => exact rfl); (case kK => first | exact rfl | assumption); (case k1 => k_asm); (case k2 => k_asm); (case k3 => k_asm); (case k4 => k_asm); (case k5 => k_asm); (case k6 => k_is); (case k7 => k_is); (case k8 => ktr_room); (case k9 => exact binds_K (by k_in) rfl (by k_is) rfl rfl rfl); (case c5 => decide); (case kB => exact locs rfl); (case c2 => exact rfl); (case c3 => exact rfl); (case c4 => exact rfl); k_whole; intro g' L' h' FG' F' N' B' X' T'; (try dsimp only); (try k_lift B'); (try k_fold)))
local macro_rules | `(tactic| walk_at "call ref") => `(tactic| (k_here; k_dflt (refine' call_meth ?k1 ?k2 ?_; (case k1 => k_asm); (case k2 => k_mem); k_whole; cell_enter)))
local macro_rules | `(tactic| walk_at "call ref") => `(tactic| (k_here; (with_reducible show wpAny _ _ (call (Value.ref 88) [Value.bytes _ _, Value.bytes _ _, Value.bytes _ _, Value.bytes _ _]) _ _ _); k_dflt (refine' CX.use (c_check _ _ _ _ _ _ _ _ _ _ _ _ _ _) ?k1 ?k2 ?k3 ?k4 ?k5 ?kK ?kp ?kd ?ku ?_ ?_; (case k1 => k_asm); (case k2 => k_asm); (case k3 => k_asm); (case k4 => k_asm); (case k5 => k_asm); (case kK => first | exact rfl | assumption); (case kp => refine ⟨?_, ?_, ?_⟩ <;> first | with_reducible assumption | omega); (case kd => ktr_room); (case ku => ktr_units)); (all_goals first | (intro (hlost' : _ = false) _ _ F' N'; (try dsimp only); (try k_sweep)) | (intro (hlost' : _ = true) _ _ _ _ F' hup' R'; (try dsimp only); (try k_sweep)))))
local macro_rules | `(tactic| walk_at "truthy ref") => `(tactic| (k_here; (with_reducible show wpAny _ _ (truthy (Value.ref 96)) _ _ _); k_dflt (refine' truthy_def ?xX ?xl ?xc ?_; (case xX => k_in); (case xl => k_is); (case xc => rfl))))
local macro_rules | `(tactic| walk_at "call ref") => `(tactic| (k_here; (with_reducible show wpAny _ _ (call (Value.ref _) [Value.bytes _ _]) _ _ _); (rename OwnOK _ _ _ _ _ _ _ _ _ _ => hO'); (rename (∀ e ∈ (_ : List (Addr × Obj)), e ∈ (_ : List (Addr × Obj))) => hown'); k_dflt (refine' OwnOK.use0 hO' ?k1 ?k2 ?k3 ?k4 ?k5 ?kK ?ko ?ke ?kl ?kd ?ku ?_; (case k1 => k_asm); (case k2 => k_asm); (case k3 => k_asm); (case k4 => k_asm); (case k5 => k_asm); (case kK => first | exact rfl | assumption); (case ko => exact fun e he => by (repeat (first | exact hown' e he | apply List.mem_cons_of_mem))); (case ke => with_reducible assumption); (case kl => with_reducible assumption); (case kd => ktr_room); (case ku => ktr_units)); intro _ _ _ _ _ F' N'; (try dsimp only); (try k_sweep)))
local macro_rules | `(tactic| walk_at "callWith ref") => `(tactic| (k_here; k_dflt (refine' callWith_F ?k1 ?_; (case k1 => exact FnAt.of (by k_asm) (by k_mem)); k_whole)))
local macro_rules | `(tactic| walk_at "getMethod ref") => `(tactic| (k_here; (with_reducible first | show wpAny _ _ (getMethod (Value.ref _) (Str.ofString "clean_conversion") _) _ _ _ | show wpAny _ _ (getMethod (Value.ref _) (Str.ofString "smudge_conversion") _) _ _ _); k_dflt (refine' kmu_own ?k1 ?k2 ?k3 ?k4 ?k5 ?_; (case k1 => k_asm); (case k2 => k_asm); (case k3 => k_inst); (case k4 => k_is); (case k5 => k_is); k_whole)))
set_option maxHeartbeats 8000000 in
theorem c_tryin (w : World) (p : Program) (loose : List Str) (mean : ExcName → Option Value) (mg mb : Str → Option Value) (Lc x q dd fo c' : Addr) (nm ql : Str) (pr : Arguments) (bd : List Stmt) (sc : Scope) (cls : List (Str × Addr)) (doc pm ct : Value) (own rest : List (Addr × Obj)) (us : List Value) (ds : List (Array UInt8))
    (t1 t2 t3 t4 t5 t6 t7 td : Tok) (cv sv iv : Value) (det only : Bool) (sf d ans : Array UInt8) (k0 vidx : Int) (hcv : CvIs k0 73 fo cv) (hiv : IxIs vidx iv) (hd : d.size ≤ 9000) (ha : ans.size ≤ 9000)
    (hsf : sf = #[102, 97, 108, 115, 101] ∨ sf = #[116, 114, 117, 101] ∨ sf = #[119, 97, 114, 110]) (hO : OwnOK w p loose mean mg mb fo Lc ans own) (hown : ∀ e ∈ own, e ∈ rest) :
    CY 6 w p loose mean mg mb 127 Lc ((q, methodObj (.ref 44) (.ref x)) :: (x, instObj 62 dd) :: (dd, dictOf (entsOf w t1 t2 t3 t4 t5 t6 t7 cv sv det sf only iv) 6) :: (fo, fnMade nm ql pr bd sc cls doc pm c' ct) :: rest) us ds
      (List.replicate (wayK d k0 det (decide (vidx = 0) && hasB d #[13, 10])) d) [.ref q, .bytes d td] (wayO d k0 det (decide (vidx = 0) && hasB d #[13, 10]) (pickB k0 (downB d) ans) sf) := by
  unfold CY
  k_fill
  w_top off
  intro dp un gd cn cs a ccd cl A₀ h₀ L m s Q E n B F X N T hk hba hne hul hdp hu hret
  have hz' : d.size ≤ 16777216 := by omega
  have hz1 : d.size ≤ 100000 := by omega
  have hz2 : ans.size ≤ 100000 := by omega
  have hz3 : (downB d).size ≤ 100000 := Nat.le_trans (down_size d) (by omega)
  simp only [entsOf] at N hne hret
  generalize hX : wayO d k0 det (decide (vidx = 0) && hasB d #[13, 10]) (pickB k0 (downB d) ans) sf = X at hret
  generalize hg : wayK d k0 det (decide (vidx = 0) && hasB d #[13, 10]) = kk at hret
  refine wpAny_call ?_
  k_dflt (refine' code_defT ?k1 ?k2 ?k3 ?k4 ?k5 ?kA ?kF ?kK ?k6 ?k7 ?k8 ?k9 ?kB ?_ ?c2 ?c3 ?c4 ?c5; (case kA => exact rfl); (case kF => exact rfl); (case kK => assumption); (case k1 => k_asm); (case k2 => k_asm); (case k3 => k_asm); (case k4 => k_asm); (case k5 => k_asm); (case k6 => k_is); (case k7 => k_is); (case k8 => ktr_room); (case k9 => exact BindsTo.of_eq rfl); (case c5 => decide); (case kB => exact locs rfl); (case c2 => exact rfl); (case c3 => exact rfl); (case c4 => exact rfl); k_whole; intro g' L' h' FG' F' N' B' X' T' D'; (try dsimp only); (try k_lift B'); (try k_fold))
  rcases hcv with ⟨hk0, ev⟩ | ⟨hk0, ev⟩ | ⟨hk0, ev⟩
  · subst hk0 ev
    k_steps
    all_goals first
      | ((with_reducible show Q (Value.bytes d td) _)
         have e1 : X = some d := hX.symm.trans (by clear hX hg hret; simp [wayO, skipB, pickB, *]; done)
         have e2 : kk = 0 := hg.symm.trans (by clear hX hg hret; simp [wayK, skipB, *]; done)
         subst e1 e2
         exact cy_end (t := _) hret (by assumption) (by assumption) hba List.mem_cons_self (fun p hp => by repeat (first | assumption | apply List.mem_cons_of_mem)) rfl (by simp))
  · subst hk0 ev
    rcases hiv with ⟨hi0, ev⟩ | ⟨hi0, ev⟩
    · subst hi0 ev
      k_steps
      all_goals first
      | ((with_reducible show Q (Value.bytes d td) _)
         have e1 : X = some d := hX.symm.trans (by clear hX hg hret; simp [wayO, skipB, pickB, *]; done)
         have e2 : kk = 0 := hg.symm.trans (by clear hX hg hret; simp [wayK, skipB, *]; done)
         subst e1 e2
         exact cy_end (t := _) hret (by assumption) (by assumption) hba List.mem_cons_self (fun p hp => by repeat (first | assumption | apply List.mem_cons_of_mem)) rfl (by simp))
      | ((with_reducible show Q (Value.bytes (downB d) _) _)
         have e1 : X = some (downB d) := hX.symm.trans (by clear hX hg hret; first | (have hl := fun m => lost_false (d := d) (m := m) (sf := sf) (by with_reducible assumption); simp [wayO, skipB, pickB, hl, *]; done) | (simp [wayO, skipB, pickB, *]; done))
         have e2 : kk = 0 := hg.symm.trans (by clear hX hg hret; simp [wayK, skipB, *]; done)
         subst e1 e2
         exact cy_end (t := _) hret (by assumption) (by assumption) hba List.mem_cons_self (fun p hp => by repeat (first | assumption | apply List.mem_cons_of_mem)) rfl (by simp))
      | ((with_reducible show Q Value.none _)
         have e1 : X = none := hX.symm.trans (by clear hX hg hret; simp [wayO, skipB, pickB, *]; done)
         have e2 : kk = 0 := hg.symm.trans (by clear hX hg hret; simp [wayK, skipB, *]; done)
         subst e1 e2
         exact cy_end (t := 0) hret (by assumption) (by assumption) hba List.mem_cons_self (fun p hp => by repeat (first | assumption | apply List.mem_cons_of_mem)) rfl (by simp))
    · subst ev
      k_steps
      all_goals first
      | ((with_reducible show Q (Value.bytes d td) _)
         have e1 : X = some d := hX.symm.trans (by clear hX hg hret; simp [wayO, skipB, pickB, *]; done)
         have e2 : kk = 0 := hg.symm.trans (by clear hX hg hret; simp [wayK, skipB, *]; done)
         subst e1 e2
         exact cy_end (t := _) hret (by assumption) (by assumption) hba List.mem_cons_self (fun p hp => by repeat (first | assumption | apply List.mem_cons_of_mem)) rfl (by simp))
      | ((with_reducible show Q (Value.bytes (downB d) _) _)
         have e1 : X = some (downB d) := hX.symm.trans (by clear hX hg hret; first | (have hl := fun m => lost_false (d := d) (m := m) (sf := sf) (by with_reducible assumption); simp [wayO, skipB, pickB, hl, *]; done) | (simp [wayO, skipB, pickB, *]; done))
         have e2 : kk = 0 := hg.symm.trans (by clear hX hg hret; simp [wayK, skipB, *]; done)
         subst e1 e2
         exact cy_end (t := _) hret (by assumption) (by assumption) hba List.mem_cons_self (fun p hp => by repeat (first | assumption | apply List.mem_cons_of_mem)) rfl (by simp))
      | ((with_reducible show Q Value.none _)
         have e1 : X = none := hX.symm.trans (by clear hX hg hret; simp [wayO, skipB, pickB, *]; done)
         have e2 : kk = 0 := hg.symm.trans (by clear hX hg hret; simp [wayK, skipB, *]; done)
         subst e1 e2
         exact cy_end (t := 0) hret (by assumption) (by assumption) hba List.mem_cons_self (fun p hp => by repeat (first | assumption | apply List.mem_cons_of_mem)) rfl (by simp))
  · subst hk0 ev
    rcases hiv with ⟨hi0, ev⟩ | ⟨hi0, ev⟩
    · subst hi0 ev
      k_steps
      all_goals first
      | ((with_reducible show Q (Value.bytes d td) _)
         have e1 : X = some d := hX.symm.trans (by clear hX hg hret; simp [wayO, skipB, pickB, *]; done)
         have e2 : kk = 0 := hg.symm.trans (by clear hX hg hret; simp [wayK, skipB, *]; done)
         subst e1 e2
         exact cy_end (t := _) hret (by assumption) (by assumption) hba List.mem_cons_self (fun p hp => by repeat (first | assumption | apply List.mem_cons_of_mem)) rfl (by simp))
      | ((with_reducible show Q (Value.bytes ans _) _)
         have e1 : X = some ans := hX.symm.trans (by clear hX hg hret; first | (have hl := fun m => lost_false (d := d) (m := m) (sf := sf) (by with_reducible assumption); simp [wayO, skipB, pickB, hl, *]; done) | (simp [wayO, skipB, pickB, *]; done))
         have e2 : kk = 1 := hg.symm.trans (by clear hX hg hret; simp [wayK, skipB, *]; done)
         subst e1 e2
         exact cy_end (t := _) hret (by assumption) (by assumption) (hba.append (BA.one _ _)) List.mem_cons_self (fun p hp => by repeat (first | assumption | apply List.mem_cons_of_mem)) rfl (by simp))
      | ((with_reducible show Q Value.none _)
         have e1 : X = none := hX.symm.trans (by clear hX hg hret; simp [wayO, skipB, pickB, *]; done)
         have e2 : kk = 1 := hg.symm.trans (by clear hX hg hret; simp [wayK, skipB, *]; done)
         subst e1 e2
         exact cy_end (t := 0) hret (by assumption) (by assumption) (hba.append (BA.one _ _)) List.mem_cons_self (fun p hp => by repeat (first | assumption | apply List.mem_cons_of_mem)) rfl (by simp))
    · subst ev
      k_steps
      all_goals first
      | ((with_reducible show Q (Value.bytes d td) _)
         have e1 : X = some d := hX.symm.trans (by clear hX hg hret; simp [wayO, skipB, pickB, *]; done)
         have e2 : kk = 0 := hg.symm.trans (by clear hX hg hret; simp [wayK, skipB, *]; done)
         subst e1 e2
         exact cy_end (t := _) hret (by assumption) (by assumption) hba List.mem_cons_self (fun p hp => by repeat (first | assumption | apply List.mem_cons_of_mem)) rfl (by simp))
      | ((with_reducible show Q (Value.bytes ans _) _)
         have e1 : X = some ans := hX.symm.trans (by clear hX hg hret; first | (have hl := fun m => lost_false (d := d) (m := m) (sf := sf) (by with_reducible assumption); simp [wayO, skipB, pickB, hl, *]; done) | (simp [wayO, skipB, pickB, *]; done))
         have e2 : kk = 1 := hg.symm.trans (by clear hX hg hret; simp [wayK, skipB, *]; done)
         subst e1 e2
         exact cy_end (t := _) hret (by assumption) (by assumption) (hba.append (BA.one _ _)) List.mem_cons_self (fun p hp => by repeat (first | assumption | apply List.mem_cons_of_mem)) rfl (by simp))
      | ((with_reducible show Q Value.none _)
         have e1 : X = none := hX.symm.trans (by clear hX hg hret; simp [wayO, skipB, pickB, *]; done)
         have e2 : kk = 1 := hg.symm.trans (by clear hX hg hret; simp [wayK, skipB, *]; done)
         subst e1 e2
         exact cy_end (t := 0) hret (by assumption) (by assumption) (hba.append (BA.one _ _)) List.mem_cons_self (fun p hp => by repeat (first | assumption | apply List.mem_cons_of_mem)) rfl (by simp))
end Mine

namespace Mine
open PySem.Calls PyProof.V PySem.Spec Builtin
set_option maxRecDepth 100000
local macro_rules | `(tactic| walk_at "compareOp In bytes bytes") => `(tactic| (k_here; (with_reducible show wpAny _ _ (compareOp CmpOp.In (Value.bytes _ _) (Value.bytes _ _)) _ _ _); k_dflt (refine' in_K ?mF ?mN ?mh ?_; (case mF => k_asm); (case mN => k_asm); (case mh => exact rfl)); intro _ _ F' N'; (try k_sweep)))
local macro_rules | `(tactic| walk_at "compareOp NotIn bytes bytes") => `(tactic| (k_here; (with_reducible show wpAny _ _ (compareOp CmpOp.NotIn (Value.bytes _ _) (Value.bytes _ _)) _ _ _); k_dflt (refine' notIn_K ?mF ?mN ?mh ?_; (case mF => k_asm); (case mN => k_asm); (case mh => exact rfl)); intro _ _ F' N'; (try k_sweep)))
local macro_rules | `(tactic| walk_at "subscriptTail") => `(tactic| (k_here; (with_reducible show wpAny _ _ (subscriptTail _ (Expr.Slice _ _ none _) (Value.bytes _ _) (Value.ref _)) _ _ _); (with_reducible rename Fr _ _ _ _ => F'); (with_reducible rename News _ _ _ _ => N'); (refine slice_B (s := ⟨_, _, _, _, _⟩) F' N' (by constructor) (by constructor) (by first | assumption | omega) ?_); intro _ _ _ F' N'))
local macro_rules | `(tactic| walk_at "getMethod bytes") => `(tactic| (k_here; (with_reducible first | refine m_join ?_ | refine m_replace ?_ | refine m_split ?_ | refine m_endswith ?_)))
local macro_rules | `(tactic| walk_at "call builtin:bytes.endswith") => `(tactic| (k_here; refine endswith_K ?_))
local macro_rules | `(tactic| walk_at "call builtin:bytes.split") => `(tactic| (k_here; k_dflt (refine' split_K ?mF ?mN ?mo ?mz ?mn ?_; (case mF => k_asm); (case mN => k_asm); (case mo => rfl); (case mz => exact fun p hp => Nat.le_trans (rows_size _ p hp) (by rw [sizeLine_eq]; omega)); (case mn => exact Nat.le_trans (rows_len _) (by rw [sizeLine_eq]; omega))); intro l' h' vs' _ F' N' l1 hBA'; (try k_lt l1); (try k_sweep)))
local macro_rules | `(tactic| walk_at "subscriptTail") => `(tactic| (k_here; (with_reducible show wpAny _ _ (subscriptTail _ (Expr.Slice none (some _) none _) (Value.ref _) (Value.ref _)) _ _ _); (with_reducible rename Fr _ _ _ _ => F'); (with_reducible rename News _ _ _ _ => N'); (with_reducible rename BA _ _ => hBA'); (refine slice_init (s := ⟨_, _, _, _, _⟩) F' N' (by k_mem) hBA' (Nat.le_trans (rows_len _) (by omega)) ?_); intro D' ws' h' F' N' l1 hBA'; (try k_lt l1); (try k_sweep)))
local macro_rules | `(tactic| walk_at "subscriptTail") => `(tactic| (k_here; (with_reducible show wpAny _ _ (subscriptTail _ (Expr.Slice (some _) none none _) (Value.ref _) (Value.ref _)) _ _ _); (with_reducible rename Fr _ _ _ _ => F'); (with_reducible rename News _ _ _ _ => N'); (refine slice_last (s := ⟨_, _, _, _, _⟩) F' N' (by k_mem) (by assumption) (Nat.le_trans (rows_len _) (by omega)) ?_); intro D' ws' h' F' N' l1 hBA'; (try k_lt l1); (try k_sweep)))
local macro_rules | `(tactic| walk_at "eval ListComp") => `(tactic| (k_here; (with_reducible rename BA _ _ => hBA'); k_dflt (refine LCg.ListComp_U (F₀ := by k_asm) (by with_unfolding_all rfl) (by decide) (by rfl) (by decide) (by rfl) ?_)))
local macro_rules | `(tactic| walk_at "CompSrc") => `(tactic| (k_here; (with_reducible rename BA _ _ => hBA'); k_dflt (refine LCg.CompSrc.ledger (by rfl) (by k_asm) (by k_asm) (by k_mem) (by rw [List.size_toArray, hBA'.length, sizeLine_eq, List.length_dropLast]; exact Nat.le_trans (Nat.sub_le _ _) (Nat.le_trans (rows_len _) (by omega))) ?_; intro g'; (refine' kcb_list chopB hBA' (fun p' t' I' oI' C' oC' D' m' ys' h' tk' E' hk' hC' hx' F' N' off' ne' => (Mine.withSize (Nat.le_trans (rows_size _ p' (List.dropLast_subset _ hk')) (by omega)) (fun hps' => ?_))) (fun ys' hBA' => ?_)); (all_goals (try (simp only [LCg.Off3, and_true] at off'))); (all_goals (try k_fold)))))
local macro_rules | `(tactic| walk_at "CompEnd") => `(tactic| (refine LCg.CompEnd.intro (by assumption) (by assumption) _ (fun _ hp => hp) (by first | assumption | (simp only [LCg.Off3, and_true]; assumption)) (by lcg_src) (el_of ?_); first | exact chop_pos (by assumption) | exact chop_neg (by assumption) | exact chop_neg (ne_true_of_eq_false (by assumption))))
local macro_rules | `(tactic| walk_at "binaryOp Add ref ref") => `(tactic| (k_here; (with_reducible show wpAny _ _ (binaryOp _ (Value.ref _) (Value.ref _)) _ _ _); k_dflt (refine' add_BA ?F ?N ?a ?b ?i ?j ?z ?_; (case F => k_asm); (case N => k_asm); (case a => k_mem); (case b => k_mem); (case i => assumption); (case j => assumption); (case z => exact sum_len _ (by omega))); intro D' us' h' F' N' l1 hBA'; (try k_lt l1); (try k_sweep)))
local macro_rules | `(tactic| walk_at "call builtin:bytes.join") => `(tactic| (k_here; k_dflt (first | refine' join_down ?l ?b ?z ?_ | refine' join_up ?l ?b ?z ?_); (case l => exact News.isList (by k_asm) (by k_mem)); (case b => assumption); (case z => omega); intro _ _))
local macro_rules | `(tactic| walk_at "call builtin:bytes.replace") => `(tactic| (k_here; k_dflt (refine' replace_down ?z ?_; (case z => omega)); intro _ _))
local macro_rules | `(tactic| walk_at "compareOp In bytes ref") => `(tactic| (k_here; (with_reducible show wpAny _ _ (compareOp CmpOp.In (Value.bytes _ _) (Value.ref _)) _ _ _); k_dflt (refine' in_tup2 ?mN ?mm ?_; (case mN => k_asm); (case mm => k_mem))))
local macro_rules | `(tactic| walk_at "call builtin:bytes.decode") => `(tactic| (k_here; (refine decode_p ?_); intro _ _))
local macro_rules | `(tactic| walk_at "call ref") => `(tactic| (k_here; (with_reducible show wpAny _ _ (call (Value.ref 21) [Value.bytes _ _]) _ _ _); k_dflt (refine' CR.use (c_isbin _ _ _ _ _ _ _ _ _) ?k1 ?k2 ?k3 ?k4 ?k5 ?kK ?kp ?kd ?ku ?_; (case k1 => k_asm); (case k2 => k_asm); (case k3 => k_asm); (case k4 => k_asm); (case k5 => k_asm); (case kK => first | exact rfl | assumption); (case kp => first | with_reducible assumption | omega); (case kd => ktr_room); (case ku => ktr_units)); intro _ _ _ F' N'; (try dsimp only); (try k_sweep)))
local macro_rules | `(tactic| walk_at "call ref") => `(tactic| (k_here; (with_reducible show wpAny _ _ (call (Value.ref 101) [Value.bytes _ _]) _ _ _); k_dflt (refine' CR.use (c_down _ _ _ _ _ _ _ _ _) ?k1 ?k2 ?k3 ?k4 ?k5 ?kK ?kp ?kd ?ku ?_; (case k1 => k_asm); (case k2 => k_asm); (case k3 => k_asm); (case k4 => k_asm); (case k5 => k_asm); (case kK => first | exact rfl | assumption); (case kp => first | with_reducible assumption | omega); (case kd => ktr_room); (case ku => ktr_units)); intro _ _ _ F' N'; (try dsimp only); (try k_sweep)))
local macro_rules | `(tactic| walk_at "call ref") => `(tactic| (k_here; (with_reducible show wpAny _ _ (call (Value.ref 106) [Value.bytes _ _]) _ _ _); k_dflt (refine' CR.use (c_up _ _ _ _ _ _ _ _ _) ?k1 ?k2 ?k3 ?k4 ?k5 ?kK ?kp ?kd ?ku ?_; (case k1 => k_asm); (case k2 => k_asm); (case k3 => k_asm); (case k4 => k_asm); (case k5 => k_asm); (case kK => first | exact rfl | assumption); (case kp => first | with_reducible assumption | omega); (case kd => ktr_room); (case ku => ktr_units)); intro _ _ _ F' N'; (try dsimp only); (try k_sweep)))
local macro_rules | `(tactic| walk_at "call ref") => `(tactic| (k_here; (with_reducible show wpAny _ _ (call (Value.ref 73) [Value.bytes _ _]) _ _ _); k_dflt (refine' CR.use (c_crlf _ _ _ _ _ _ _ _ _) ?k1 ?k2 ?k3 ?k4 ?k5 ?kK ?kp ?kd ?ku ?_; (case k1 => k_asm); (case k2 => k_asm); (case k3 => k_asm); (case k4 => k_asm); (case k5 => k_asm); (case kK => first | exact rfl | assumption); (case kp => first | with_reducible assumption | omega); (case kd => ktr_room); (case ku => ktr_units)); intro _ _ _ F' N'; (try dsimp only); (try k_sweep)))
local macro_rules | `(tactic| walk_at "call ref") => `(tactic| (k_here; (with_reducible show wpAny _ _ (call (Value.ref 80) [Value.bytes _ _]) _ _ _); k_dflt (refine' CR.use (c_lf _ _ _ _ _ _ _ _ _) ?k1 ?k2 ?k3 ?k4 ?k5 ?kK ?kp ?kd ?ku ?_; (case k1 => k_asm); (case k2 => k_asm); (case k3 => k_asm); (case k4 => k_asm); (case k5 => k_asm); (case kK => first | exact rfl | assumption); (case kp => first | with_reducible assumption | omega); (case kd => ktr_room); (case ku => ktr_units)); intro _ _ _ F' N'; (try dsimp only); (try k_sweep)))
local macro_rules | `(tactic| walk_at "call ref") => `(tactic| (k_here; (with_reducible show wpAny _ _ (call (Value.ref 113) [Value.bytes _ _, Value.bytes _ _, Value.bytes _ _]) _ _ _); k_dflt (refine' CR.use (c_lost _ _ _ _ _ _ _ _ _ _ _ _ _) ?k1 ?k2 ?k3 ?k4 ?k5 ?kK ?kp ?kd ?ku ?_; (case k1 => k_asm); (case k2 => k_asm); (case k3 => k_asm); (case k4 => k_asm); (case k5 => k_asm); (case kK => first | exact rfl | assumption); (case kp => refine ⟨?_, ?_⟩ <;> first | with_reducible assumption | omega); (case kd => ktr_room); (case ku => ktr_units)); intro _ _ _ F' N'; (try dsimp only); (try k_sweep)))
local macro_rules | `(tactic| cell_enter) => `(tactic| (refine' code_def ?k1 ?k2 ?k3 ?k4 ?k5 ?kA ?kF ?kK ?k6 ?k7 ?k8 ?k9 ?kB ?_ ?c2 ?c3 ?c4 ?c5; (case kA => exact rfl); (case kF => exact rfl); (case kK => first | exact rfl | assumption); (case k1 => k_asm); (case k2 => k_asm); (case k3 => k_asm); (case k4 => k_asm); (case k5 => k_asm); (case k6 => k_is); (case k7 => k_is); (case k8 => ktr_room); (case k9 => exact binds_K (by k_in) rfl (by k_is) rfl rfl rfl); (case c5 => decide); (case kB => exact locs rfl); (case c2 => exact rfl); (case c3 => exact rfl); (case c4 => exact rfl); k_whole; intro g' L' h' FG' F' N' B' X' T'; (try dsimp only); (try k_lift B'); (try k_fold)))
local macro_rules | `(tactic| walk_at "call ref") => `(tactic| (k_here; k_dflt (refine' call_meth ?k1 ?k2 ?_; (case k1 => k_asm); (case k2 => k_mem); k_whole; cell_enter)))
local macro_rules | `(tactic| walk_at "call ref") => `(tactic| (k_here; (with_reducible show wpAny _ _ (call (Value.ref 88) [Value.bytes _ _, Value.bytes _ _, Value.bytes _ _, Value.bytes _ _]) _ _ _); k_dflt (refine' CX.use (c_check _ _ _ _ _ _ _ _ _ _ _ _ _ _) ?k1 ?k2 ?k3 ?k4 ?k5 ?kK ?kp ?kd ?ku ?_ ?_; (case k1 => k_asm); (case k2 => k_asm); (case k3 => k_asm); (case k4 => k_asm); (case k5 => k_asm); (case kK => first | exact rfl | assumption); (case kp => refine ⟨?_, ?_, ?_⟩ <;> first | with_reducible assumption | omega); (case kd => ktr_room); (case ku => ktr_units)); (all_goals first | (intro (hlost' : _ = false) _ _ F' N'; (try dsimp only); (try k_sweep)) | (intro (hlost' : _ = true) _ _ _ _ F' hup' R'; (try dsimp only); (try k_sweep)))))
local macro_rules | `(tactic| walk_at "truthy ref") => `(tactic| (k_here; (with_reducible show wpAny _ _ (truthy (Value.ref 96)) _ _ _); k_dflt (refine' truthy_def ?xX ?xl ?xc ?_; (case xX => k_in); (case xl => k_is); (case xc => rfl))))
local macro_rules | `(tactic| walk_at "call ref") => `(tactic| (k_here; (with_reducible show wpAny _ _ (call (Value.ref _) [Value.bytes _ _]) _ _ _); (rename OwnOK _ _ _ _ _ _ _ _ _ _ => hO'); (rename (∀ e ∈ (_ : List (Addr × Obj)), e ∈ (_ : List (Addr × Obj))) => hown'); k_dflt (refine' OwnOK.use0 hO' ?k1 ?k2 ?k3 ?k4 ?k5 ?kK ?ko ?ke ?kl ?kd ?ku ?_; (case k1 => k_asm); (case k2 => k_asm); (case k3 => k_asm); (case k4 => k_asm); (case k5 => k_asm); (case kK => first | exact rfl | assumption); (case ko => exact fun e he => by (repeat (first | exact hown' e he | apply List.mem_cons_of_mem))); (case ke => with_reducible assumption); (case kl => with_reducible assumption); (case kd => ktr_room); (case ku => ktr_units)); intro _ _ _ _ _ F' N'; (try dsimp only); (try k_sweep)))
local macro_rules | `(tactic| walk_at "callWith ref") => `(tactic| (k_here; k_dflt (refine' callWith_F ?k1 ?_; (case k1 => exact FnAt.of (by k_asm) (by k_mem)); k_whole)))
local macro_rules | `(tactic| walk_at "getMethod ref") => `(tactic| (k_here; (with_reducible first | show wpAny _ _ (getMethod (Value.ref _) (Str.ofString "clean_conversion") _) _ _ _ | show wpAny _ _ (getMethod (Value.ref _) (Str.ofString "smudge_conversion") _) _ _ _); k_dflt (refine' kmu_own ?k1 ?k2 ?k3 ?k4 ?k5 ?_; (case k1 => k_asm); (case k2 => k_asm); (case k3 => k_inst); (case k4 => k_is); (case k5 => k_is); k_whole)))
local macro_rules | `(tactic| walk_at "no such key") => `(tactic| fail "no such key")
set_option maxHeartbeats 8000000 in
theorem c_tryout (w : World) (p : Program) (loose : List Str) (mean : ExcName → Option Value) (mg mb : Str → Option Value) (Lc x q dd fo c' : Addr) (nm ql : Str) (pr : Arguments) (bd : List Stmt) (sc : Scope) (cls : List (Str × Addr)) (doc pm ct : Value) (own rest : List (Addr × Obj)) (us : List Value) (ds : List (Array UInt8))
    (t1 t2 t3 t4 t5 t6 t7 td : Tok) (cv sv iv : Value) (det only : Bool) (sf d ans : Array UInt8) (k0 : Int) (hcv : CvIs k0 80 fo sv) (hd : d.size ≤ 9000) (ha : ans.size ≤ 9000)
    (hsf : sf = #[102, 97, 108, 115, 101] ∨ sf = #[116, 114, 117, 101] ∨ sf = #[119, 97, 114, 110]) (hO : OwnOK w p loose mean mg mb fo Lc ans own) (hown : ∀ e ∈ own, e ∈ rest) :
    CY 6 w p loose mean mg mb 127 Lc ((q, methodObj (.ref 52) (.ref x)) :: (x, instObj 62 dd) :: (dd, dictOf (entsOf w t1 t2 t3 t4 t5 t6 t7 cv sv det sf only iv) 6) :: (fo, fnMade nm ql pr bd sc cls doc pm c' ct) :: rest) us ds
      (List.replicate (wayK d k0 det (only && hasB d #[13])) d) [.ref q, .bytes d td] (wayO d k0 det (only && hasB d #[13]) (pickB k0 (upB d) ans) sf) := by
  unfold CY
  k_fill
  w_top off
  intro dp un gd cn cs a ccd cl A₀ h₀ L m s Q E n B F X N T hk hba hne hul hdp hu hret
  have hz' : d.size ≤ 16777216 := by omega
  have hz1 : d.size ≤ 100000 := by omega
  have hz2 : ans.size ≤ 100000 := by omega
  have hz3 : (upB d).size ≤ 100000 := Nat.le_trans (up_size d) (by omega)
  simp only [entsOf] at N hne hret
  generalize hX : wayO d k0 det (only && hasB d #[13]) (pickB k0 (upB d) ans) sf = X at hret
  generalize hg : wayK d k0 det (only && hasB d #[13]) = kk at hret
  refine wpAny_call ?_
  k_dflt (refine' code_defT ?k1 ?k2 ?k3 ?k4 ?k5 ?kA ?kF ?kK ?k6 ?k7 ?k8 ?k9 ?kB ?_ ?c2 ?c3 ?c4 ?c5; (case kA => exact rfl); (case kF => exact rfl); (case kK => assumption); (case k1 => k_asm); (case k2 => k_asm); (case k3 => k_asm); (case k4 => k_asm); (case k5 => k_asm); (case k6 => k_is); (case k7 => k_is); (case k8 => ktr_room); (case k9 => exact BindsTo.of_eq rfl); (case c5 => decide); (case kB => exact locs rfl); (case c2 => exact rfl); (case c3 => exact rfl); (case c4 => exact rfl); k_whole; intro g' L' h' FG' F' N' B' X' T' D'; (try dsimp only); (try k_lift B'); (try k_fold))
  rcases hcv with ⟨hk0, ev⟩ | ⟨hk0, ev⟩ | ⟨hk0, ev⟩
  · subst hk0 ev
    k_steps
    all_goals first
      | ((with_reducible show Q (Value.bytes d td) _)
         have e1 : X = some d := hX.symm.trans (by clear hX hg hret; simp [wayO, skipB, pickB, *]; done)
         have e2 : kk = 0 := hg.symm.trans (by clear hX hg hret; simp [wayK, skipB, *]; done)
         subst e1 e2
         exact cy_end (t := _) hret (by assumption) (by assumption) hba List.mem_cons_self (fun p hp => by repeat (first | assumption | apply List.mem_cons_of_mem)) rfl (by simp))
  · subst hk0 ev
    k_steps
    all_goals first
    | ((with_reducible show Q (Value.bytes d td) _)
       have e1 : X = some d := hX.symm.trans (by clear hX hg hret; simp [wayO, skipB, pickB, *]; done)
       have e2 : kk = 0 := hg.symm.trans (by clear hX hg hret; simp [wayK, skipB, *]; done)
       subst e1 e2
       exact cy_end (t := _) hret (by assumption) (by assumption) hba List.mem_cons_self (fun p hp => by repeat (first | assumption | apply List.mem_cons_of_mem)) rfl (by simp))
    | ((with_reducible show Q (Value.bytes (upB d) _) _)
       have e1 : X = some (upB d) := hX.symm.trans (by clear hX hg hret; first | (have hl := fun m => lost_false (d := d) (m := m) (sf := sf) (by with_reducible assumption); simp [wayO, skipB, pickB, hl, *]; done) | (simp [wayO, skipB, pickB, *]; done))
       have e2 : kk = 0 := hg.symm.trans (by clear hX hg hret; simp [wayK, skipB, *]; done)
       subst e1 e2
       exact cy_end (t := _) hret (by assumption) (by assumption) hba List.mem_cons_self (fun p hp => by repeat (first | assumption | apply List.mem_cons_of_mem)) rfl (by simp))
    | ((with_reducible show Q Value.none _)
       have e1 : X = none := hX.symm.trans (by clear hX hg hret; simp [wayO, skipB, pickB, *]; done)
       have e2 : kk = 0 := hg.symm.trans (by clear hX hg hret; simp [wayK, skipB, *]; done)
       subst e1 e2
       exact cy_end (t := 0) hret (by assumption) (by assumption) hba List.mem_cons_self (fun p hp => by repeat (first | assumption | apply List.mem_cons_of_mem)) rfl (by simp))
  · subst hk0 ev
    k_steps
    all_goals first
    | ((with_reducible show Q (Value.bytes d td) _)
       have e1 : X = some d := hX.symm.trans (by clear hX hg hret; simp [wayO, skipB, pickB, *]; done)
       have e2 : kk = 0 := hg.symm.trans (by clear hX hg hret; simp [wayK, skipB, *]; done)
       subst e1 e2
       exact cy_end (t := _) hret (by assumption) (by assumption) hba List.mem_cons_self (fun p hp => by repeat (first | assumption | apply List.mem_cons_of_mem)) rfl (by simp))
    | ((with_reducible show Q (Value.bytes ans _) _)
       have e1 : X = some ans := hX.symm.trans (by clear hX hg hret; first | (have hl := fun m => lost_false (d := d) (m := m) (sf := sf) (by with_reducible assumption); simp [wayO, skipB, pickB, hl, *]; done) | (simp [wayO, skipB, pickB, *]; done))
       have e2 : kk = 1 := hg.symm.trans (by clear hX hg hret; simp [wayK, skipB, *]; done)
       subst e1 e2
       exact cy_end (t := _) hret (by assumption) (by assumption) (hba.append (BA.one _ _)) List.mem_cons_self (fun p hp => by repeat (first | assumption | apply List.mem_cons_of_mem)) rfl (by simp))
    | ((with_reducible show Q Value.none _)
       have e1 : X = none := hX.symm.trans (by clear hX hg hret; simp [wayO, skipB, pickB, *]; done)
       have e2 : kk = 1 := hg.symm.trans (by clear hX hg hret; simp [wayK, skipB, *]; done)
       subst e1 e2
       exact cy_end (t := 0) hret (by assumption) (by assumption) (hba.append (BA.one _ _)) List.mem_cons_self (fun p hp => by repeat (first | assumption | apply List.mem_cons_of_mem)) rfl (by simp))
end Mine

namespace Mine
open PySem.Calls PyProof.V PySem.Spec Builtin
set_option maxRecDepth 100000
local macro_rules | `(tactic| walk_at "compareOp In bytes bytes") => `(tactic| (k_here; (with_reducible show wpAny _ _ (compareOp CmpOp.In (Value.bytes _ _) (Value.bytes _ _)) _ _ _); k_dflt (refine' in_K ?mF ?mN ?mh ?_; (case mF => k_asm); (case mN => k_asm); (case mh => exact rfl)); intro _ _ F' N'; (try k_sweep)))
local macro_rules | `(tactic| walk_at "compareOp NotIn bytes bytes") => `(tactic| (k_here; (with_reducible show wpAny _ _ (compareOp CmpOp.NotIn (Value.bytes _ _) (Value.bytes _ _)) _ _ _); k_dflt (refine' notIn_K ?mF ?mN ?mh ?_; (case mF => k_asm); (case mN => k_asm); (case mh => exact rfl)); intro _ _ F' N'; (try k_sweep)))
local macro_rules | `(tactic| walk_at "subscriptTail") => `(tactic| (k_here; (with_reducible show wpAny _ _ (subscriptTail _ (Expr.Slice _ _ none _) (Value.bytes _ _) (Value.ref _)) _ _ _); (with_reducible rename Fr _ _ _ _ => F'); (with_reducible rename News _ _ _ _ => N'); (refine slice_B (s := ⟨_, _, _, _, _⟩) F' N' (by constructor) (by constructor) (by first | assumption | omega) ?_); intro _ _ _ F' N'))
local macro_rules | `(tactic| walk_at "getMethod bytes") => `(tactic| (k_here; (with_reducible first | refine m_join ?_ | refine m_replace ?_ | refine m_split ?_ | refine m_endswith ?_)))
local macro_rules | `(tactic| walk_at "call builtin:bytes.endswith") => `(tactic| (k_here; refine endswith_K ?_))
local macro_rules | `(tactic| walk_at "call builtin:bytes.split") => `(tactic| (k_here; k_dflt (refine' split_K ?mF ?mN ?mo ?mz ?mn ?_; (case mF => k_asm); (case mN => k_asm); (case mo => rfl); (case mz => exact fun p hp => Nat.le_trans (rows_size _ p hp) (by rw [sizeLine_eq]; omega)); (case mn => exact Nat.le_trans (rows_len _) (by rw [sizeLine_eq]; omega))); intro l' h' vs' _ F' N' l1 hBA'; (try k_lt l1); (try k_sweep)))
local macro_rules | `(tactic| walk_at "subscriptTail") => `(tactic| (k_here; (with_reducible show wpAny _ _ (subscriptTail _ (Expr.Slice none (some _) none _) (Value.ref _) (Value.ref _)) _ _ _); (with_reducible rename Fr _ _ _ _ => F'); (with_reducible rename News _ _ _ _ => N'); (with_reducible rename BA _ _ => hBA'); (refine slice_init (s := ⟨_, _, _, _, _⟩) F' N' (by k_mem) hBA' (Nat.le_trans (rows_len _) (by omega)) ?_); intro D' ws' h' F' N' l1 hBA'; (try k_lt l1); (try k_sweep)))
local macro_rules | `(tactic| walk_at "subscriptTail") => `(tactic| (k_here; (with_reducible show wpAny _ _ (subscriptTail _ (Expr.Slice (some _) none none _) (Value.ref _) (Value.ref _)) _ _ _); (with_reducible rename Fr _ _ _ _ => F'); (with_reducible rename News _ _ _ _ => N'); (refine slice_last (s := ⟨_, _, _, _, _⟩) F' N' (by k_mem) (by assumption) (Nat.le_trans (rows_len _) (by omega)) ?_); intro D' ws' h' F' N' l1 hBA'; (try k_lt l1); (try k_sweep)))
local macro_rules | `(tactic| walk_at "eval ListComp") => `(tactic| (k_here; (with_reducible rename BA _ _ => hBA'); k_dflt (refine LCg.ListComp_U (F₀ := by k_asm) (by with_unfolding_all rfl) (by decide) (by rfl) (by decide) (by rfl) ?_)))
local macro_rules | `(tactic| walk_at "CompSrc") => `(tactic| (k_here; (with_reducible rename BA _ _ => hBA'); k_dflt (refine LCg.CompSrc.ledger (by rfl) (by k_asm) (by k_asm) (by k_mem) (by rw [List.size_toArray, hBA'.length, sizeLine_eq, List.length_dropLast]; exact Nat.le_trans (Nat.sub_le _ _) (Nat.le_trans (rows_len _) (by omega))) ?_; intro g'; (refine' kcb_list chopB hBA' (fun p' t' I' oI' C' oC' D' m' ys' h' tk' E' hk' hC' hx' F' N' off' ne' => (Mine.withSize (Nat.le_trans (rows_size _ p' (List.dropLast_subset _ hk')) (by omega)) (fun hps' => ?_))) (fun ys' hBA' => ?_)); (all_goals (try (simp only [LCg.Off3, and_true] at off'))); (all_goals (try k_fold)))))
local macro_rules | `(tactic| walk_at "CompEnd") => `(tactic| (refine LCg.CompEnd.intro (by assumption) (by assumption) _ (fun _ hp => hp) (by first | assumption | (simp only [LCg.Off3, and_true]; assumption)) (by lcg_src) (el_of ?_); first | exact chop_pos (by assumption) | exact chop_neg (by assumption) | exact chop_neg (ne_true_of_eq_false (by assumption))))
local macro_rules | `(tactic| walk_at "binaryOp Add ref ref") => `(tactic| (k_here; (with_reducible show wpAny _ _ (binaryOp _ (Value.ref _) (Value.ref _)) _ _ _); k_dflt (refine' add_BA ?F ?N ?a ?b ?i ?j ?z ?_; (case F => k_asm); (case N => k_asm); (case a => k_mem); (case b => k_mem); (case i => assumption); (case j => assumption); (case z => exact sum_len _ (by omega))); intro D' us' h' F' N' l1 hBA'; (try k_lt l1); (try k_sweep)))
local macro_rules | `(tactic| walk_at "call builtin:bytes.join") => `(tactic| (k_here; k_dflt (first | refine' join_down ?l ?b ?z ?_ | refine' join_up ?l ?b ?z ?_); (case l => exact News.isList (by k_asm) (by k_mem)); (case b => assumption); (case z => omega); intro _ _))
local macro_rules | `(tactic| walk_at "call builtin:bytes.replace") => `(tactic| (k_here; k_dflt (refine' replace_down ?z ?_; (case z => omega)); intro _ _))
local macro_rules | `(tactic| walk_at "compareOp In bytes ref") => `(tactic| (k_here; (with_reducible show wpAny _ _ (compareOp CmpOp.In (Value.bytes _ _) (Value.ref _)) _ _ _); k_dflt (refine' in_tup2 ?mN ?mm ?_; (case mN => k_asm); (case mm => k_mem))))
local macro_rules | `(tactic| walk_at "call builtin:bytes.decode") => `(tactic| (k_here; (refine decode_p ?_); intro _ _))
local macro_rules | `(tactic| walk_at "call ref") => `(tactic| (k_here; (with_reducible show wpAny _ _ (call (Value.ref 21) [Value.bytes _ _]) _ _ _); k_dflt (refine' CR.use (c_isbin _ _ _ _ _ _ _ _ _) ?k1 ?k2 ?k3 ?k4 ?k5 ?kK ?kp ?kd ?ku ?_; (case k1 => k_asm); (case k2 => k_asm); (case k3 => k_asm); (case k4 => k_asm); (case k5 => k_asm); (case kK => first | exact rfl | assumption); (case kp => first | with_reducible assumption | omega); (case kd => ktr_room); (case ku => ktr_units)); intro _ _ _ F' N'; (try dsimp only); (try k_sweep)))
local macro_rules | `(tactic| walk_at "call ref") => `(tactic| (k_here; (with_reducible show wpAny _ _ (call (Value.ref 101) [Value.bytes _ _]) _ _ _); k_dflt (refine' CR.use (c_down _ _ _ _ _ _ _ _ _) ?k1 ?k2 ?k3 ?k4 ?k5 ?kK ?kp ?kd ?ku ?_; (case k1 => k_asm); (case k2 => k_asm); (case k3 => k_asm); (case k4 => k_asm); (case k5 => k_asm); (case kK => first | exact rfl | assumption); (case kp => first | with_reducible assumption | omega); (case kd => ktr_room); (case ku => ktr_units)); intro _ _ _ F' N'; (try dsimp only); (try k_sweep)))
local macro_rules | `(tactic| walk_at "call ref") => `(tactic| (k_here; (with_reducible show wpAny _ _ (call (Value.ref 106) [Value.bytes _ _]) _ _ _); k_dflt (refine' CR.use (c_up _ _ _ _ _ _ _ _ _) ?k1 ?k2 ?k3 ?k4 ?k5 ?kK ?kp ?kd ?ku ?_; (case k1 => k_asm); (case k2 => k_asm); (case k3 => k_asm); (case k4 => k_asm); (case k5 => k_asm); (case kK => first | exact rfl | assumption); (case kp => first | with_reducible assumption | omega); (case kd => ktr_room); (case ku => ktr_units)); intro _ _ _ F' N'; (try dsimp only); (try k_sweep)))
local macro_rules | `(tactic| walk_at "call ref") => `(tactic| (k_here; (with_reducible show wpAny _ _ (call (Value.ref 73) [Value.bytes _ _]) _ _ _); k_dflt (refine' CR.use (c_crlf _ _ _ _ _ _ _ _ _) ?k1 ?k2 ?k3 ?k4 ?k5 ?kK ?kp ?kd ?ku ?_; (case k1 => k_asm); (case k2 => k_asm); (case k3 => k_asm); (case k4 => k_asm); (case k5 => k_asm); (case kK => first | exact rfl | assumption); (case kp => first | with_reducible assumption | omega); (case kd => ktr_room); (case ku => ktr_units)); intro _ _ _ F' N'; (try dsimp only); (try k_sweep)))
local macro_rules | `(tactic| walk_at "call ref") => `(tactic| (k_here; (with_reducible show wpAny _ _ (call (Value.ref 80) [Value.bytes _ _]) _ _ _); k_dflt (refine' CR.use (c_lf _ _ _ _ _ _ _ _ _) ?k1 ?k2 ?k3 ?k4 ?k5 ?kK ?kp ?kd ?ku ?_; (case k1 => k_asm); (case k2 => k_asm); (case k3 => k_asm); (case k4 => k_asm); (case k5 => k_asm); (case kK => first | exact rfl | assumption); (case kp => first | with_reducible assumption | omega); (case kd => ktr_room); (case ku => ktr_units)); intro _ _ _ F' N'; (try dsimp only); (try k_sweep)))
local macro_rules | `(tactic| walk_at "call ref") => `(tactic| (k_here; (with_reducible show wpAny _ _ (call (Value.ref 113) [Value.bytes _ _, Value.bytes _ _, Value.bytes _ _]) _ _ _); k_dflt (refine' CR.use (c_lost _ _ _ _ _ _ _ _ _ _ _ _ _) ?k1 ?k2 ?k3 ?k4 ?k5 ?kK ?kp ?kd ?ku ?_; (case k1 => k_asm); (case k2 => k_asm); (case k3 => k_asm); (case k4 => k_asm); (case k5 => k_asm); (case kK => first | exact rfl | assumption); (case kp => refine ⟨?_, ?_⟩ <;> first | with_reducible assumption | omega); (case kd => ktr_room); (case ku => ktr_units)); intro _ _ _ F' N'; (try dsimp only); (try k_sweep)))
local macro_rules | `(tactic| cell_enter) => `(tactic| (refine' code_def ?k1 ?k2 ?k3 ?k4 ?k5 ?kA ?kF ?kK ?k6 ?k7 ?k8 ?k9 ?kB ?_ ?c2 ?c3 ?c4 ?c5; (case kA => exact rfl); (case kF => exact rfl); (case kK => first | exact rfl | assumption); (case k1 => k_asm); (case k2 => k_asm); (case k3 => k_asm); (case k4 => k_asm); (case k5 => k_asm); (case k6 => k_is); (case k7 => k_is); (case k8 => ktr_room); (case k9 => exact binds_K (by k_in) rfl (by k_is) rfl rfl rfl); (case c5 => decide); (case kB => exact locs rfl); (case c2 => exact rfl); (case c3 => exact rfl); (case c4 => exact rfl); k_whole; intro g' L' h' FG' F' N' B' X' T'; (try dsimp only); (try k_lift B'); (try k_fold)))
local macro_rules | `(tactic| walk_at "call ref") => `(tactic| (k_here; k_dflt (refine' call_meth ?k1 ?k2 ?_; (case k1 => k_asm); (case k2 => k_mem); k_whole; cell_enter)))
local macro_rules | `(tactic| walk_at "call ref") => `(tactic| (k_here; (with_reducible show wpAny _ _ (call (Value.ref 88) [Value.bytes _ _, Value.bytes _ _, Value.bytes _ _, Value.bytes _ _]) _ _ _); k_dflt (refine' CX.use (c_check _ _ _ _ _ _ _ _ _ _ _ _ _ _) ?k1 ?k2 ?k3 ?k4 ?k5 ?kK ?kp ?kd ?ku ?_ ?_; (case k1 => k_asm); (case k2 => k_asm); (case k3 => k_asm); (case k4 => k_asm); (case k5 => k_asm); (case kK => first | exact rfl | assumption); (case kp => refine ⟨?_, ?_, ?_⟩ <;> first | with_reducible assumption | omega); (case kd => ktr_room); (case ku => ktr_units)); (all_goals first | (intro (hlost' : _ = false) _ _ F' N'; (try dsimp only); (try k_sweep)) | (intro (hlost' : _ = true) _ _ _ _ F' hup' R'; (try dsimp only); (try k_sweep)))))
local macro_rules | `(tactic| walk_at "truthy ref") => `(tactic| (k_here; (with_reducible show wpAny _ _ (truthy (Value.ref 96)) _ _ _); k_dflt (refine' truthy_def ?xX ?xl ?xc ?_; (case xX => k_in); (case xl => k_is); (case xc => rfl))))
local macro_rules | `(tactic| walk_at "call ref") => `(tactic| (k_here; (with_reducible show wpAny _ _ (call (Value.ref _) [Value.bytes _ _]) _ _ _); (rename OwnOK _ _ _ _ _ _ _ _ _ _ => hO'); (rename (∀ e ∈ (_ : List (Addr × Obj)), e ∈ (_ : List (Addr × Obj))) => hown'); k_dflt (refine' OwnOK.use0 hO' ?k1 ?k2 ?k3 ?k4 ?k5 ?kK ?ko ?ke ?kl ?kd ?ku ?_; (case k1 => k_asm); (case k2 => k_asm); (case k3 => k_asm); (case k4 => k_asm); (case k5 => k_asm); (case kK => first | exact rfl | assumption); (case ko => exact fun e he => by (repeat (first | exact hown' e he | apply List.mem_cons_of_mem))); (case ke => with_reducible assumption); (case kl => with_reducible assumption); (case kd => ktr_room); (case ku => ktr_units)); intro _ _ _ _ _ F' N'; (try dsimp only); (try k_sweep)))
local macro_rules | `(tactic| walk_at "callWith ref") => `(tactic| (k_here; k_dflt (refine' callWith_F ?k1 ?_; (case k1 => exact FnAt.of (by k_asm) (by k_mem)); k_whole)))
local macro_rules | `(tactic| walk_at "getMethod ref") => `(tactic| (k_here; (with_reducible first | show wpAny _ _ (getMethod (Value.ref _) (Str.ofString "clean_conversion") _) _ _ _ | show wpAny _ _ (getMethod (Value.ref _) (Str.ofString "smudge_conversion") _) _ _ _); k_dflt (refine' kmu_own ?k1 ?k2 ?k3 ?k4 ?k5 ?_; (case k1 => k_asm); (case k2 => k_asm); (case k3 => k_inst); (case k4 => k_is); (case k5 => k_is); k_whole)))
set_option maxHeartbeats 8000000 in
theorem c_plainin (w : World) (p : Program) (loose : List Str) (mean : ExcName → Option Value) (mg mb : Str → Option Value) (Lc x dd fo c' : Addr) (nm ql : Str) (pr : Arguments) (bd : List Stmt) (sc : Scope) (cls : List (Str × Addr)) (doc pm ct : Value) (own rest : List (Addr × Obj)) (us : List Value) (ds : List (Array UInt8))
    (t1 t2 t3 t4 t5 t6 t7 td : Tok) (cv sv : Value) (d ans : Array UInt8) (k0 : Int) (hcv : CvIs k0 73 fo cv) (hd : d.size ≤ 9000) (ha : ans.size ≤ 9000) (hO : OwnOK w p loose mean mg mb fo Lc ans own) (hown : ∀ e ∈ own, e ∈ rest) :
    CY 5 w p loose mean mg mb 44 Lc ((x, instObj 62 dd) :: (dd, dictOf (entsOf w t1 t2 t3 t4 t5 t6 t7 cv sv true #[102, 97, 108, 115, 101] false .none) 6) :: (fo, fnMade nm ql pr bd sc cls doc pm c' ct) :: rest) us ds
      (List.replicate (wayK d k0 true false) d) [.ref x, .bytes d td] (wayO d k0 true false (pickB k0 (downB d) ans) #[102, 97, 108, 115, 101]) := by
  unfold CY
  k_fill
  w_top off
  intro dp un gd cn cs a ccd cl A₀ h₀ L m s Q E n B F X N T hk hba hne hul hdp hu hret
  have hz' : d.size ≤ 16777216 := by omega
  have hz1 : d.size ≤ 100000 := by omega
  have hz2 : ans.size ≤ 100000 := by omega
  have hz3 : (downB d).size ≤ 100000 := Nat.le_trans (down_size d) (by omega)
  simp only [entsOf] at N hne hret
  generalize hX : wayO d k0 true false (pickB k0 (downB d) ans) #[102, 97, 108, 115, 101] = X at hret
  generalize hg : wayK d k0 true false = kk at hret
  refine wpAny_call ?_
  k_dflt cell_enter
  rcases hcv with ⟨hk0, ev⟩ | ⟨hk0, ev⟩ | ⟨hk0, ev⟩
  · subst hk0 ev
    k_steps
    all_goals first
    | ((with_reducible show Q (Value.bytes d td) _)
       have e1 : X = some d := hX.symm.trans (by clear hX hg hret; simp [wayO, skipB, pickB, lostB, *]; done)
       have e2 : kk = 0 := hg.symm.trans (by clear hX hg hret; simp [wayK, skipB, *]; done)
       subst e1 e2
       exact cy_end (t := _) hret (by assumption) (by assumption) hba List.mem_cons_self (fun p hp => by repeat (first | assumption | apply List.mem_cons_of_mem)) rfl (by simp))
  · subst hk0 ev
    k_steps
    all_goals first
    | ((with_reducible show Q (Value.bytes d td) _)
       have e1 : X = some d := hX.symm.trans (by clear hX hg hret; simp [wayO, skipB, pickB, lostB, *]; done)
       have e2 : kk = 0 := hg.symm.trans (by clear hX hg hret; simp [wayK, skipB, *]; done)
       subst e1 e2
       exact cy_end (t := _) hret (by assumption) (by assumption) hba List.mem_cons_self (fun p hp => by repeat (first | assumption | apply List.mem_cons_of_mem)) rfl (by simp))
    | ((with_reducible show Q (Value.bytes (downB d) _) _)
       have e1 : X = some (downB d) := hX.symm.trans (by clear hX hg hret; simp [wayO, skipB, pickB, lostB, *]; done)
       have e2 : kk = 0 := hg.symm.trans (by clear hX hg hret; simp [wayK, skipB, *]; done)
       subst e1 e2
       exact cy_end (t := _) hret (by assumption) (by assumption) hba List.mem_cons_self (fun p hp => by repeat (first | assumption | apply List.mem_cons_of_mem)) rfl (by simp))
  · subst hk0 ev
    k_steps
    all_goals first
    | ((with_reducible show Q (Value.bytes d td) _)
       have e1 : X = some d := hX.symm.trans (by clear hX hg hret; simp [wayO, skipB, pickB, lostB, *]; done)
       have e2 : kk = 0 := hg.symm.trans (by clear hX hg hret; simp [wayK, skipB, *]; done)
       subst e1 e2
       exact cy_end (t := _) hret (by assumption) (by assumption) hba List.mem_cons_self (fun p hp => by repeat (first | assumption | apply List.mem_cons_of_mem)) rfl (by simp))
    | ((with_reducible show Q (Value.bytes ans _) _)
       have e1 : X = some ans := hX.symm.trans (by clear hX hg hret; simp [wayO, skipB, pickB, lostB, *]; done)
       have e2 : kk = 1 := hg.symm.trans (by clear hX hg hret; simp [wayK, skipB, *]; done)
       subst e1 e2
       exact cy_end (t := _) hret (by assumption) (by assumption) (hba.append (BA.one _ _)) List.mem_cons_self (fun p hp => by repeat (first | assumption | apply List.mem_cons_of_mem)) rfl (by simp))


set_option maxHeartbeats 8000000 in
theorem c_plainout (w : World) (p : Program) (loose : List Str) (mean : ExcName → Option Value) (mg mb : Str → Option Value) (Lc x dd fo c' : Addr) (nm ql : Str) (pr : Arguments) (bd : List Stmt) (sc : Scope) (cls : List (Str × Addr)) (doc pm ct : Value) (own rest : List (Addr × Obj)) (us : List Value) (ds : List (Array UInt8))
    (t1 t2 t3 t4 t5 t6 t7 td : Tok) (cv sv : Value) (d ans : Array UInt8) (k0 : Int) (hcv : CvIs k0 80 fo sv) (hd : d.size ≤ 9000) (ha : ans.size ≤ 9000) (hO : OwnOK w p loose mean mg mb fo Lc ans own) (hown : ∀ e ∈ own, e ∈ rest) :
    CY 5 w p loose mean mg mb 52 Lc ((x, instObj 62 dd) :: (dd, dictOf (entsOf w t1 t2 t3 t4 t5 t6 t7 cv sv true #[102, 97, 108, 115, 101] false .none) 6) :: (fo, fnMade nm ql pr bd sc cls doc pm c' ct) :: rest) us ds
      (List.replicate (wayK d k0 true false) d) [.ref x, .bytes d td] (wayO d k0 true false (pickB k0 (upB d) ans) #[102, 97, 108, 115, 101]) := by
  unfold CY
  k_fill
  w_top off
  intro dp un gd cn cs a ccd cl A₀ h₀ L m s Q E n B F X N T hk hba hne hul hdp hu hret
  have hz' : d.size ≤ 16777216 := by omega
  have hz1 : d.size ≤ 100000 := by omega
  have hz2 : ans.size ≤ 100000 := by omega
  have hz3 : (upB d).size ≤ 100000 := Nat.le_trans (up_size d) (by omega)
  simp only [entsOf] at N hne hret
  generalize hX : wayO d k0 true false (pickB k0 (upB d) ans) #[102, 97, 108, 115, 101] = X at hret
  generalize hg : wayK d k0 true false = kk at hret
  refine wpAny_call ?_
  k_dflt cell_enter
  rcases hcv with ⟨hk0, ev⟩ | ⟨hk0, ev⟩ | ⟨hk0, ev⟩
  · subst hk0 ev
    k_steps
    all_goals first
    | ((with_reducible show Q (Value.bytes d td) _)
       have e1 : X = some d := hX.symm.trans (by clear hX hg hret; simp [wayO, skipB, pickB, lostB, *]; done)
       have e2 : kk = 0 := hg.symm.trans (by clear hX hg hret; simp [wayK, skipB, *]; done)
       subst e1 e2
       exact cy_end (t := _) hret (by assumption) (by assumption) hba List.mem_cons_self (fun p hp => by repeat (first | assumption | apply List.mem_cons_of_mem)) rfl (by simp))
  · subst hk0 ev
    k_steps
    all_goals first
    | ((with_reducible show Q (Value.bytes d td) _)
       have e1 : X = some d := hX.symm.trans (by clear hX hg hret; simp [wayO, skipB, pickB, lostB, *]; done)
       have e2 : kk = 0 := hg.symm.trans (by clear hX hg hret; simp [wayK, skipB, *]; done)
       subst e1 e2
       exact cy_end (t := _) hret (by assumption) (by assumption) hba List.mem_cons_self (fun p hp => by repeat (first | assumption | apply List.mem_cons_of_mem)) rfl (by simp))
    | ((with_reducible show Q (Value.bytes (upB d) _) _)
       have e1 : X = some (upB d) := hX.symm.trans (by clear hX hg hret; simp [wayO, skipB, pickB, lostB, *]; done)
       have e2 : kk = 0 := hg.symm.trans (by clear hX hg hret; simp [wayK, skipB, *]; done)
       subst e1 e2
       exact cy_end (t := _) hret (by assumption) (by assumption) hba List.mem_cons_self (fun p hp => by repeat (first | assumption | apply List.mem_cons_of_mem)) rfl (by simp))
  · subst hk0 ev
    k_steps
    all_goals first
    | ((with_reducible show Q (Value.bytes d td) _)
       have e1 : X = some d := hX.symm.trans (by clear hX hg hret; simp [wayO, skipB, pickB, lostB, *]; done)
       have e2 : kk = 0 := hg.symm.trans (by clear hX hg hret; simp [wayK, skipB, *]; done)
       subst e1 e2
       exact cy_end (t := _) hret (by assumption) (by assumption) hba List.mem_cons_self (fun p hp => by repeat (first | assumption | apply List.mem_cons_of_mem)) rfl (by simp))
    | ((with_reducible show Q (Value.bytes ans _) _)
       have e1 : X = some ans := hX.symm.trans (by clear hX hg hret; simp [wayO, skipB, pickB, lostB, *]; done)
       have e2 : kk = 1 := hg.symm.trans (by clear hX hg hret; simp [wayK, skipB, *]; done)
       subst e1 e2
       exact cy_end (t := _) hret (by assumption) (by assumption) (hba.append (BA.one _ _)) List.mem_cons_self (fun p hp => by repeat (first | assumption | apply List.mem_cons_of_mem)) rfl (by simp))
end Mine

namespace Mine
open PySem.Calls PyProof.V PySem.Spec Builtin
set_option maxRecDepth 100000
local macro_rules | `(tactic| walk_at "compareOp In bytes bytes") => `(tactic| (k_here; (with_reducible show wpAny _ _ (compareOp CmpOp.In (Value.bytes _ _) (Value.bytes _ _)) _ _ _); k_dflt (refine' in_K ?mF ?mN ?mh ?_; (case mF => k_asm); (case mN => k_asm); (case mh => exact rfl)); intro _ _ F' N'; (try k_sweep)))
local macro_rules | `(tactic| walk_at "compareOp NotIn bytes bytes") => `(tactic| (k_here; (with_reducible show wpAny _ _ (compareOp CmpOp.NotIn (Value.bytes _ _) (Value.bytes _ _)) _ _ _); k_dflt (refine' notIn_K ?mF ?mN ?mh ?_; (case mF => k_asm); (case mN => k_asm); (case mh => exact rfl)); intro _ _ F' N'; (try k_sweep)))
local macro_rules | `(tactic| walk_at "subscriptTail") => `(tactic| (k_here; (with_reducible show wpAny _ _ (subscriptTail _ (Expr.Slice _ _ none _) (Value.bytes _ _) (Value.ref _)) _ _ _); (with_reducible rename Fr _ _ _ _ => F'); (with_reducible rename News _ _ _ _ => N'); (refine slice_B (s := ⟨_, _, _, _, _⟩) F' N' (by constructor) (by constructor) (by first | assumption | omega) ?_); intro _ _ _ F' N'))
local macro_rules | `(tactic| walk_at "getMethod bytes") => `(tactic| (k_here; (with_reducible first | refine m_join ?_ | refine m_replace ?_ | refine m_split ?_ | refine m_endswith ?_)))
local macro_rules | `(tactic| walk_at "call builtin:bytes.endswith") => `(tactic| (k_here; refine endswith_K ?_))
local macro_rules | `(tactic| walk_at "call builtin:bytes.split") => `(tactic| (k_here; k_dflt (refine' split_K ?mF ?mN ?mo ?mz ?mn ?_; (case mF => k_asm); (case mN => k_asm); (case mo => rfl); (case mz => exact fun p hp => Nat.le_trans (rows_size _ p hp) (by rw [sizeLine_eq]; omega)); (case mn => exact Nat.le_trans (rows_len _) (by rw [sizeLine_eq]; omega))); intro l' h' vs' _ F' N' l1 hBA'; (try k_lt l1); (try k_sweep)))
local macro_rules | `(tactic| walk_at "subscriptTail") => `(tactic| (k_here; (with_reducible show wpAny _ _ (subscriptTail _ (Expr.Slice none (some _) none _) (Value.ref _) (Value.ref _)) _ _ _); (with_reducible rename Fr _ _ _ _ => F'); (with_reducible rename News _ _ _ _ => N'); (with_reducible rename BA _ _ => hBA'); (refine slice_init (s := ⟨_, _, _, _, _⟩) F' N' (by k_mem) hBA' (Nat.le_trans (rows_len _) (by omega)) ?_); intro D' ws' h' F' N' l1 hBA'; (try k_lt l1); (try k_sweep)))
local macro_rules | `(tactic| walk_at "subscriptTail") => `(tactic| (k_here; (with_reducible show wpAny _ _ (subscriptTail _ (Expr.Slice (some _) none none _) (Value.ref _) (Value.ref _)) _ _ _); (with_reducible rename Fr _ _ _ _ => F'); (with_reducible rename News _ _ _ _ => N'); (refine slice_last (s := ⟨_, _, _, _, _⟩) F' N' (by k_mem) (by assumption) (Nat.le_trans (rows_len _) (by omega)) ?_); intro D' ws' h' F' N' l1 hBA'; (try k_lt l1); (try k_sweep)))
local macro_rules | `(tactic| walk_at "eval ListComp") => `(tactic| (k_here; (with_reducible rename BA _ _ => hBA'); k_dflt (refine LCg.ListComp_U (F₀ := by k_asm) (by with_unfolding_all rfl) (by decide) (by rfl) (by decide) (by rfl) ?_)))
local macro_rules | `(tactic| walk_at "CompSrc") => `(tactic| (k_here; (with_reducible rename BA _ _ => hBA'); k_dflt (refine LCg.CompSrc.ledger (by rfl) (by k_asm) (by k_asm) (by k_mem) (by rw [List.size_toArray, hBA'.length, sizeLine_eq, List.length_dropLast]; exact Nat.le_trans (Nat.sub_le _ _) (Nat.le_trans (rows_len _) (by omega))) ?_; intro g'; (refine' kcb_list chopB hBA' (fun p' t' I' oI' C' oC' D' m' ys' h' tk' E' hk' hC' hx' F' N' off' ne' => (Mine.withSize (Nat.le_trans (rows_size _ p' (List.dropLast_subset _ hk')) (by omega)) (fun hps' => ?_))) (fun ys' hBA' => ?_)); (all_goals (try (simp only [LCg.Off3, and_true] at off'))); (all_goals (try k_fold)))))
local macro_rules | `(tactic| walk_at "CompEnd") => `(tactic| (refine LCg.CompEnd.intro (by assumption) (by assumption) _ (fun _ hp => hp) (by first | assumption | (simp only [LCg.Off3, and_true]; assumption)) (by lcg_src) (el_of ?_); first | exact chop_pos (by assumption) | exact chop_neg (by assumption) | exact chop_neg (ne_true_of_eq_false (by assumption))))
local macro_rules | `(tactic| walk_at "binaryOp Add ref ref") => `(tactic| (k_here; (with_reducible show wpAny _ _ (binaryOp _ (Value.ref _) (Value.ref _)) _ _ _); k_dflt (refine' add_BA ?F ?N ?a ?b ?i ?j ?z ?_; (case F => k_asm); (case N => k_asm); (case a => k_mem); (case b => k_mem); (case i => assumption); (case j => assumption); (case z => exact sum_len _ (by omega))); intro D' us' h' F' N' l1 hBA'; (try k_lt l1); (try k_sweep)))
local macro_rules | `(tactic| walk_at "call builtin:bytes.join") => `(tactic| (k_here; k_dflt (first | refine' join_down ?l ?b ?z ?_ | refine' join_up ?l ?b ?z ?_); (case l => exact News.isList (by k_asm) (by k_mem)); (case b => assumption); (case z => omega); intro _ _))
local macro_rules | `(tactic| walk_at "call builtin:bytes.replace") => `(tactic| (k_here; k_dflt (refine' replace_down ?z ?_; (case z => omega)); intro _ _))
local macro_rules | `(tactic| walk_at "compareOp In bytes ref") => `(tactic| (k_here; (with_reducible show wpAny _ _ (compareOp CmpOp.In (Value.bytes _ _) (Value.ref _)) _ _ _); k_dflt (refine' in_tup2 ?mN ?mm ?_; (case mN => k_asm); (case mm => k_mem))))
local macro_rules | `(tactic| walk_at "call builtin:bytes.decode") => `(tactic| (k_here; (refine decode_p ?_); intro _ _))
local macro_rules | `(tactic| walk_at "call ref") => `(tactic| (k_here; (with_reducible show wpAny _ _ (call (Value.ref 21) [Value.bytes _ _]) _ _ _); k_dflt (refine' CR.use (c_isbin _ _ _ _ _ _ _ _ _) ?k1 ?k2 ?k3 ?k4 ?k5 ?kK ?kp ?kd ?ku ?_; (case k1 => k_asm); (case k2 => k_asm); (case k3 => k_asm); (case k4 => k_asm); (case k5 => k_asm); (case kK => first | exact rfl | assumption); (case kp => first | with_reducible assumption | omega); (case kd => ktr_room); (case ku => ktr_units)); intro _ _ _ F' N'; (try dsimp only); (try k_sweep)))
local macro_rules | `(tactic| walk_at "call ref") => `(tactic| (k_here; (with_reducible show wpAny _ _ (call (Value.ref 101) [Value.bytes _ _]) _ _ _); k_dflt (refine' CR.use (c_down _ _ _ _ _ _ _ _ _) ?k1 ?k2 ?k3 ?k4 ?k5 ?kK ?kp ?kd ?ku ?_; (case k1 => k_asm); (case k2 => k_asm); (case k3 => k_asm); (case k4 => k_asm); (case k5 => k_asm); (case kK => first | exact rfl | assumption); (case kp => first | with_reducible assumption | omega); (case kd => ktr_room); (case ku => ktr_units)); intro _ _ _ F' N'; (try dsimp only); (try k_sweep)))
local macro_rules | `(tactic| walk_at "call ref") => `(tactic| (k_here; (with_reducible show wpAny _ _ (call (Value.ref 106) [Value.bytes _ _]) _ _ _); k_dflt (refine' CR.use (c_up _ _ _ _ _ _ _ _ _) ?k1 ?k2 ?k3 ?k4 ?k5 ?kK ?kp ?kd ?ku ?_; (case k1 => k_asm); (case k2 => k_asm); (case k3 => k_asm); (case k4 => k_asm); (case k5 => k_asm); (case kK => first | exact rfl | assumption); (case kp => first | with_reducible assumption | omega); (case kd => ktr_room); (case ku => ktr_units)); intro _ _ _ F' N'; (try dsimp only); (try k_sweep)))
local macro_rules | `(tactic| walk_at "call ref") => `(tactic| (k_here; (with_reducible show wpAny _ _ (call (Value.ref 73) [Value.bytes _ _]) _ _ _); k_dflt (refine' CR.use (c_crlf _ _ _ _ _ _ _ _ _) ?k1 ?k2 ?k3 ?k4 ?k5 ?kK ?kp ?kd ?ku ?_; (case k1 => k_asm); (case k2 => k_asm); (case k3 => k_asm); (case k4 => k_asm); (case k5 => k_asm); (case kK => first | exact rfl | assumption); (case kp => first | with_reducible assumption | omega); (case kd => ktr_room); (case ku => ktr_units)); intro _ _ _ F' N'; (try dsimp only); (try k_sweep)))
local macro_rules | `(tactic| walk_at "call ref") => `(tactic| (k_here; (with_reducible show wpAny _ _ (call (Value.ref 80) [Value.bytes _ _]) _ _ _); k_dflt (refine' CR.use (c_lf _ _ _ _ _ _ _ _ _) ?k1 ?k2 ?k3 ?k4 ?k5 ?kK ?kp ?kd ?ku ?_; (case k1 => k_asm); (case k2 => k_asm); (case k3 => k_asm); (case k4 => k_asm); (case k5 => k_asm); (case kK => first | exact rfl | assumption); (case kp => first | with_reducible assumption | omega); (case kd => ktr_room); (case ku => ktr_units)); intro _ _ _ F' N'; (try dsimp only); (try k_sweep)))
local macro_rules | `(tactic| walk_at "call ref") => `(tactic| (k_here; (with_reducible show wpAny _ _ (call (Value.ref 113) [Value.bytes _ _, Value.bytes _ _, Value.bytes _ _]) _ _ _); k_dflt (refine' CR.use (c_lost _ _ _ _ _ _ _ _ _ _ _ _ _) ?k1 ?k2 ?k3 ?k4 ?k5 ?kK ?kp ?kd ?ku ?_; (case k1 => k_asm); (case k2 => k_asm); (case k3 => k_asm); (case k4 => k_asm); (case k5 => k_asm); (case kK => first | exact rfl | assumption); (case kp => refine ⟨?_, ?_⟩ <;> first | with_reducible assumption | omega); (case kd => ktr_room); (case ku => ktr_units)); intro _ _ _ F' N'; (try dsimp only); (try k_sweep)))
local macro_rules | `(tactic| walk_at "compareOp Eq ref ref") => `(tactic| (k_here; (with_reducible show wpAny _ _ (compareOp CmpOp.Eq (Value.ref _) (Value.ref _)) _ _ _); (with_unfolding_all refine' eq_intsK ?k1 ?k2 ?k3 ?k4 ?k5 ?_; (case k1 => exact News.isList (by k_asm) (by k_mem)); (case k2 => assumption); (case k3 => exact News.isList (by k_asm) (by k_mem)); (case k4 => exact IntsAre.nil); (case k5 => units_room); k_whole)))
local macro_rules | `(tactic| walk_at "call builtin:len") => `(tactic| (k_here; (with_reducible show wpAny _ _ (call (Value.builtin "len") [Value.ref _]) _ _ _); k_dflt (refine' len_M ?N ?m ?b ?z ?_; (case N => k_asm); (case m => k_mem); (case b => assumption); (case z => omega)); intro _ _))
local macro_rules | `(tactic| walk_at "subscriptTail") => `(tactic| (k_here; (with_reducible show wpAny _ _ (subscriptTail _ _ (Value.ref _) (Value.int _ _)) _ _ _); k_dflt (refine' item_M ?N ?m ?b ?h0 ?h1 ?z ?_; (case N => k_asm); (case m => k_mem); (case b => assumption); (case h0 => exact fmod_lo _ (by assumption)); (case h1 => exact fmod_hi _ (by assumption)); (case z => omega)); intro _))
local macro_rules | `(tactic| k_mem) => `(tactic| k_dflt (first | assumption | (refine' List.mem_cons_of_mem _ ?_; assumption) | (refine' List.mem_cons_of_mem _ ?_; refine' List.mem_cons_of_mem _ ?_; assumption)))
local macro_rules | `(tactic| walk_at "eval ListComp") => `(tactic| (k_here; (with_reducible show wpAny _ _ (eval (Expr.ListComp (Expr.Subscript (Expr.Name (Str.ofString "_law_pieces") _) _ _) _ _ _) _) _ _ _); refine Halt.out ?_))
local macro_rules | `(tactic| walk_at "call type:range") => `(tactic| (k_here; (with_reducible show wpAny _ _ (call (Value.type "range") [Value.int _ _]) _ _ _); (rename Fr _ _ _ _ => F'); (rename News _ _ _ _ => N'); (with_unfolding_all refine range1_rows F' N' ?_); intro _ _ _ _ _ _ F' N' _))
local macro_rules | `(tactic| walk_at "CompSrc") => `(tactic| (k_here; (rename DrawOK _ _ _ _ _ _ _ _ _ _ => hD'); k_dflt (refine LCg.CompSrc.range (by rfl) (by k_asm) (by k_asm) (by assumption) (small_one (by omega) (by omega) (by omega) (by omega)) (rangeSize_nat _ _) (by rw [sizeLine_eq]; omega) ?_; intro g'; (refine' kcn_range (fun k' t' I' oI' C' oC' D' m' ys' h' tk' E' hlo' hhi' hC' hx' F' N' off' ne' => (Mine.withTwo (P := (0 : Int) ≤ 10 + k') (Q := 10 + k' < 1000) (by clear off' ne'; omega) (by clear off' ne'; omega) fun _ _ => ?_)) (fun ys' ps' hBA' hpl' hpz' => ?_)); (all_goals (try (simp only [LCg.Off3, and_true] at off'))); (all_goals (try k_fold)))))
local macro_rules | `(tactic| walk_at "call ref") => `(tactic| (k_here; (with_reducible show wpAny _ _ (call (Value.ref _) [Value.int _ _, Value.int _ _]) _ _ _); (rename DrawOK _ _ _ _ _ _ _ _ _ _ => hD'); k_dflt (refine' hD' _ _ _ _ _ _ _ _ _ ?xF ?xN ?xs ?xt ?xu ?xv ?xa ?xb ?xc ?xd ?_; (case xF => k_asm); (case xN => k_asm); (case xs => k_mem); (case xt => k_mem); (case xu => k_mem); (case xv => k_mem); (case xa => first | assumption | omega); (case xb => first | assumption | omega); (case xc => first | decide | omega); (case xd => first | decide | omega)); intro v' t' h' _ hv0' hv1' F' N'; (try k_sweep)))
local macro_rules | `(tactic| walk_at "CompEnd") => `(tactic| (refine LCg.CompEnd.intro (by assumption) (by assumption) _ (fun _ hp => hp) (by first | assumption | (simp only [LCg.Off3, and_true]; assumption)) (by lcg_src) (el_any ?_); assumption))
local macro_rules | `(tactic| walk_at "eval Name") => `(tactic| (k_here; (with_reducible show wpAny _ _ (eval (Expr.Name (Str.ofString "draw") _) (envOfC _ _ _ _ _)) _ _ _); k_dflt (refine' nameX_C ?xN ?xc ?xm ?xd ?_ ?xa ?xb; (case xa => rfl); (case xb => rfl); (case xN => k_asm); (case xc => rfl); (case xm => k_mem); (case xd => k_asm); k_whole)))
local macro_rules | `(tactic| walk_at "eval Name") => `(tactic| (k_here; (with_reducible show wpAny _ _ (eval (Expr.Name (Str.ofString "calls") _) (envOfC _ _ _ _ _)) _ _ _); k_dflt (refine' nameX_C ?xN ?xc ?xm ?xd ?_ ?xa ?xb; (case xa => rfl); (case xb => rfl); (case xN => k_asm); (case xc => rfl); (case xm => k_mem); (case xd => k_asm); k_whole)))
local macro_rules | `(tactic| walk_at "eval Name") => `(tactic| (k_here; (with_reducible show wpAny _ _ (eval (Expr.Name (Str.ofString "answer") _) (envOfC _ _ _ _ _)) _ _ _); k_dflt (refine' nameX_C ?xN ?xc ?xm ?xd ?_ ?xa ?xb; (case xa => rfl); (case xb => rfl); (case xN => k_asm); (case xc => rfl); (case xm => k_mem); (case xd => k_asm); k_whole)))
local macro_rules | `(tactic| walk_at "exec If") => `(tactic| (k_here; (with_reducible show wpAny _ _ (exec (Stmt.If (Expr.Compare (Expr.Call (Expr.Name (Str.ofString "draw") _) _ _ _) _ _ _) _ _ _) _) _ _ _); (rename Mark => hmk'); refine Halt.out ?_))
local macro_rules | `(tactic| walk_at "subscriptTail") => `(tactic| (k_here; (with_reducible show wpAny _ _ (subscriptTail _ _ (Value.ref 89) (Value.int _ _)) _ _ _); k_dflt (refine' item_P (fun v => ∃ q t, v = Value.bytes q t ∧ q.size ≤ 2) ?xl ?xall ?x0 ?x1 ?xz ?_; (case xl => exact lstK (by k_in) (by k_is)); (case xall => intro y hy; simp only [List.mem_cons, List.not_mem_nil, or_false] at hy; rcases hy with e | e | e | e | e | e <;> (subst e; exact ⟨_, _, rfl, by decide⟩)); (case x0 => assumption); (case x1 => assumption); (case xz => exact Nat.le_of_ble_eq_true rfl)); intro _ hq'; obtain ⟨q', tq', hq1', hq2'⟩ := hq'; subst hq1'))
local macro_rules | `(tactic| walk_at "call builtin:bytes.join") => `(tactic| (k_here; k_dflt (refine' join_any ?xs ?xl ?xb ?xn ?xp ?_; (case xs => rfl); (case xl => exact News.isList (by k_asm) (by k_mem)); (case xb => assumption); (case xn => omega); (case xp => assumption)); intro d' _ _ hd12'))
local macro_rules | `(tactic| walk_at "binaryOp Mult bytes int") => `(tactic| (k_here; k_dflt (refine' mul_x ?_); intro _ _ _ hd8'))
local macro_rules | `(tactic| walk_at "binaryOp Add bytes bytes") => `(tactic| (k_here; k_dflt (refine' add_B ?xz ?_; (case xz => omega)); intro _ _ _ hd9'))
local macro_rules | `(tactic| walk_at "subscriptTail") => `(tactic| (k_here; (with_reducible show wpAny _ _ (subscriptTail (Expr.List _ _) _ (Value.ref _) (Value.int _ _)) _ _ _); k_dflt (refine' item_P (fun v => ∃ q t, v = Value.bytes q t ∧ q.size ≤ 9000) ?xl ?xall ?x0 ?x1 ?xz ?_; (case xl => exact News.isList (by k_asm) (by k_mem)); (case xall => intro y hy; simp only [List.mem_cons, List.not_mem_nil, or_false] at hy; rcases hy with e | e | e <;> (subst e; refine ⟨_, _, rfl, ?_⟩; first | decide | omega)); (case x0 => assumption); (case x1 => assumption); (case xz => exact Nat.le_of_ble_eq_true rfl)); intro _ hq'; obtain ⟨q', tq', hq1', hq2'⟩ := hq'; subst hq1'))
local macro_rules | `(tactic| walk_at "subscriptTail") => `(tactic| (k_here; (with_reducible show wpAny _ _ (subscriptTail (Expr.List _ _) _ (Value.ref _) (Value.int _ _)) _ _ _); k_dflt (refine' item_P (fun v => ∃ q t, v = Value.bytes q t ∧ (q = #[102, 97, 108, 115, 101] ∨ q = #[116, 114, 117, 101] ∨ q = #[119, 97, 114, 110])) ?xl ?xall ?x0 ?x1 ?xz ?_; (case xl => exact News.isList (by k_asm) (by k_mem)); (case xall => intro y hy; simp only [List.mem_cons, List.not_mem_nil, or_false] at hy; rcases hy with e | e | e <;> (subst e; refine ⟨_, _, rfl, ?_⟩; decide)); (case x0 => assumption); (case x1 => assumption); (case xz => exact Nat.le_of_ble_eq_true rfl)); intro _ hq'; obtain ⟨q', tq', hq1', hq2'⟩ := hq'; subst hq1'))
local macro_rules | `(tactic| walk_at "eval IfExp") => `(tactic| (k_here; (rename Mark => hmk'); refine Halt.out ?_))
local macro_rules | `(tactic| walk_at "eval BoolOp") => `(tactic| (k_here; (with_reducible show wpAny _ _ (eval (Expr.BoolOp _ (Expr.Name _ _ :: _) _) _) _ _ _); (rename Mark => hmk'); refine Halt.out ?_))
local macro_rules | `(tactic| walk_at "call ref") => `(tactic| (k_here; (with_reducible show wpAny _ _ (call (Value.ref 127) [_, _]) _ _ _); (rename Mark => hmk'); refine Halt.out ?_))
local macro_rules | `(tactic| walk_at "call ref") => `(tactic| (k_here; (with_reducible show wpAny _ _ (call (Value.ref 120) [Value.bytes _ _, Value.int _ _, Value.bool _, Value.bool _, Value.bytes _ _, Value.bytes _ _]) _ _ _); k_dflt (refine' CT.use (c_way _ _ _ _ _ _ _ _ _ _ _ _ _ _ _ _ _) ?k1 ?k2 ?k3 ?k4 ?k5 ?kK ?kp ?kd ?ku ?_; (case k1 => k_asm); (case k2 => k_asm); (case k3 => k_asm); (case k4 => k_asm); (case k5 => k_asm); (case kK => first | exact rfl | assumption); (case kp => refine ⟨?_, ?_⟩ <;> first | with_reducible assumption | omega); (case kd => ktr_room); (case ku => ktr_units)); intro _ _ _ _ _ F' N'; (try dsimp only); (try k_sweep)))
local macro_rules | `(tactic| k_mem) => `(tactic| k_dflt (first | with_reducible assumption | (refine' List.mem_cons_of_mem _ ?_; with_reducible assumption) | (refine' List.mem_cons_of_mem _ ?_; refine' List.mem_cons_of_mem _ ?_; with_reducible assumption)))
local macro_rules | `(tactic| walk_at "call builtin:list.append") => `(tactic| (k_here; (with_reducible show wpAny _ _ (call (Value.builtin _) [Value.ref _, _]) _ _ _); k_dflt (refine' append_H ?k1 ?k2 ?k3 ?k4 ?_; (case k1 => k_asm); (case k2 => k_asm); (case k3 => with_reducible assumption); (case k4 => with_reducible assumption)); intro h' _ _ F' N'; (try k_sweep)))
local macro_rules | `(tactic| walk_at "compareOp NotEq") => `(tactic| (k_here; (with_reducible show wpAny _ _ (compareOp CmpOp.NotEq (valO _ _) (valO _ _)) _ _ _); refine ne_valO ?_))
local macro_rules | `(tactic| walk_at "call builtin:len") => `(tactic| (k_here; (with_reducible show wpAny _ _ (call (Value.builtin "len") [Value.ref _]) _ _ _); k_dflt (refine' len_BA ?N ?m ?b ?z ?_; (case N => k_asm); (case m => k_mem); (case b => with_reducible assumption); (case z => (simp only [List.length_append, List.length_replicate]; omega))); intro _ _; (try simp only [List.length_append, List.length_replicate])))
local macro_rules | `(tactic| walk_at "ite") => `(tactic| (with_reducible refine ite_ne ?k ?_; (case k => first | rfl | exact Int.natCast_add _ _ | exact (Int.natCast_add _ _).symm)))
local macro_rules | `(tactic| walk_at "binaryOp Mult ref int") => `(tactic| (k_here; (with_reducible show wpAny _ _ (binaryOp _ (Value.ref _) (Value.int _ _)) _ _ _); k_dflt (refine' mul_calls ?F ?N ?m ?x ?n ?_; (case F => k_asm); (case N => k_asm); (case m => k_mem); (case x => exact (Int.natCast_add _ _).symm); (case n => omega)); intro D' us' h' hBA' F' N' l1; (try k_lt l1); (try k_sweep)))
local macro_rules | `(tactic| walk_at "compareOp NotEq ref ref") => `(tactic| (k_here; (with_reducible show wpAny _ _ (compareOp CmpOp.NotEq (Value.ref _) (Value.ref _)) _ _ _); k_dflt (refine' ne_calls ?l1 ?b1 ?l2 ?b2 ?u ?_; (case l1 => exact News.isList (by k_asm) (by k_mem)); (case l2 => exact News.isList (by k_asm) (by k_mem)); (case b1 => with_reducible assumption); (case b2 => with_reducible assumption); (case u => ktr_units))))
local macro_rules | `(tactic| walk_at "call ref") => `(tactic| (k_here; (with_reducible first | show wpAny _ _ (call (Value.ref 44) [_, _]) _ _ _ | show wpAny _ _ (call (Value.ref 52) [_, _]) _ _ _); (rename Mark => hmk'); refine Halt.out ?_))
local macro_rules | `(tactic| walk_at "compareOp Eq") => `(tactic| (k_here; (with_reducible show wpAny _ _ (compareOp CmpOp.Eq (valO _ _) (valO _ _)) _ _ _); refine eq_valO ?_))
set_option maxHeartbeats 40000000 in
theorem w_main : PySem.Challenge.rw_at6009_01.Holds := hd (by
  (k_go0; (all_goals try k_fold); k_steps)
  refine Halt.go ?_
  rename News _ _ _ _ => N1
  with_unfolding_all refine' with_draw N1 ?dr ?_
  rotate_left
  case dr =>
    rename Fr _ _ _ _ => F1
    rename IntsAre _ (List.map _ _) => hI
    intro place most tp tm s m₂ news₂ Q E F2 N2 hs1 hs2 hs3 hs4 hp0 hp1 hm0 hm1 hret
    clear F1 N1
    have hl9 := hI.length
    have hlen : (List.map (fun k' : Int => k'.fmod (10 ^ Int.toNat 15)) (List.take 9 ‹List Int›)).length ≤ 9 := by simp; omega
    generalize hns : List.map _ (List.take 9 _) = ns at hI hlen
    rcases Nat.eq_zero_or_pos ns.length with h0 | h0
    · have e : ns = [] := List.length_eq_zero_iff.mp h0
      subst e
      k_steps
      exact hret _ _ _ _ (Int.fmod_nonneg_of_pos _ (by omega)) (Int.fmod_lt_of_pos _ (by omega)) (by assumption) (tail1 (by assumption))
    · have h0' : (0 : Int) < (ns.length : Int) := by omega
      have hne : decide (ns = []) = false := by simp; intro e; subst e; simp at h0
      k_steps
      exact hret _ _ _ _ (Int.fmod_nonneg_of_pos _ (by omega)) (Int.fmod_lt_of_pos _ (by omega)) (by assumption) (tail1 (by assumption))
  intro hD
  have mk : Mark := Mark.mk
  k_dflt (refine LCg.ListComp_U (F₀ := by k_asm) (by with_unfolding_all rfl) (by decide) (by rfl) (by decide) (by rfl) ?_)
  k_steps
  refine Halt.go ?_
  rename News _ _ _ _ => N1
  rename Fr _ _ _ _ => F1
  with_unfolding_all refine' cutSt (Str.ofString "data") (fun v => ∃ d t, v = Value.bytes d t ∧ d.size ≤ 8012) F1 N1 ?walk ?cont
  case walk =>
    rename Mark => mk9
    clear mk9
    k_steps
    all_goals
      refine MidS.mk (by assumption) (by assumption) (fun _ hp => hp) (if_pos rfl) (fun z hz => by simp only [if_neg hz]) ⟨_, _, rfl, ?_⟩
    all_goals omega
  case cont =>
    intro dv h' k F' N' hd
    obtain ⟨d, td, e, hdz⟩ := hd
    subst e
    clear F1 N1
    k_steps
    refine Halt.go ?_
    rename_i Lc _ _ _ oca dca _ _ _ _ _ _ _ _ _ _ ans tans hans _ oan dan _ fown cown ocown _ _ _ _ _ _ dc1 dc2 _ _ _ k0 _ _ _ hk00 hk01 k1 _ _ _ hk10 hk11 Tk _ _ _ _ vdet _ _ _ _ _ _ _ _ _ _ _ _ _ _ sf tsf hsf _ _ _ _ _ _ _ vonly _ _ _ _ _ vidx _ _ _ _ _ _ _ _ _ _ _ F1 N1
    with_unfolding_all refine' cutP (CvIs k0 73 fown) F1 N1 ?walk ?cont
    case walk =>
      rename Mark => hmk9
      clear hmk9
      k_steps
      all_goals first
        | exact MidP.mk (by assumption) (by assumption) (fun _ hp => hp) (.inl ⟨by assumption, rfl⟩)
        | exact MidP.mk (by assumption) (by assumption) (fun _ hp => hp) (.inr (.inl ⟨by assumption, rfl⟩))
        | exact MidP.mk (by assumption) (by assumption) (fun _ hp => hp) (cv_two hk00 hk01 (by assumption) (by assumption))
    case cont =>
      intro cv h2 kk2 F2 N2 hcv
      have N3 := pick N2 (a := Lc) (by k_mem) (pick N2 (a := fown) (by k_mem) (pick N2 (a := cown) (by k_mem) (pick N2 (o := oca) (by k_mem) (pick N2 (o := oan) (by k_mem) (pick N2 (a := Tk) (by k_mem) (pick N2 (a := 129) (by k_mem) News.nil))))))
      clear F1 N1 N2
      repeat (rename (_ ≠ _ ∧ _) => hz9; clear hz9)
      rename DrawOK _ _ _ _ _ _ _ _ _ _ => hz9
      clear hz9
      k_steps
      refine Halt.go ?_
      rename Fr _ _ _ _ => F4
      rename News _ _ _ _ => N4
      with_unfolding_all refine' cutP (CvIs k1 80 fown) F4 N4 ?walk ?cont
      case walk =>
        rename Mark => hmk9
        clear hmk9
        k_steps
        all_goals first
          | exact MidP.mk (by assumption) (by assumption) (fun _ hp => hp) (.inl ⟨by assumption, rfl⟩)
          | exact MidP.mk (by assumption) (by assumption) (fun _ hp => hp) (.inr (.inl ⟨by assumption, rfl⟩))
          | exact MidP.mk (by assumption) (by assumption) (fun _ hp => hp) (cv_two hk10 hk11 (by assumption) (by assumption))
      case cont =>
        intro sv h5 kk5 F5 N5 hsv
        clear F4 N4
        k_steps
        refine Halt.go ?_
        rename Fr _ _ _ _ => F6
        rename News _ _ _ _ => N6
        with_unfolding_all refine' cutP (IxIs vidx) F6 N6 ?walk ?cont
        case walk =>
          rename Mark => hmk9
          clear hmk9
          k_steps
          all_goals first
            | exact MidP.mk (by assumption) (by assumption) (fun _ hp => hp) (.inl ⟨by assumption, rfl⟩)
            | exact MidP.mk (by assumption) (by assumption) (fun _ hp => hp) (.inr ⟨by assumption, rfl⟩)
        case cont =>
          intro iv h6 kk6 F7 N7 hiv
          clear F6 N6
          k_steps
          refine Halt.go ?_
          rename Fr _ _ _ _ => F8
          rename News _ _ _ _ => N8
          have hdn : (downB d).size ≤ 100000 := Nat.le_trans (down_size d) (by omega)
          have hup : (upB d).size ≤ 100000 := Nat.le_trans (up_size d) (by omega)
          have han : ans.size ≤ 100000 := Nat.le_trans hans (by decide)
          have hpk0 : (pickB k0 (downB d) ans).size ≤ 100000 := pickB_size hdn han
          have hpk1 : (pickB k1 (upB d) ans).size ≤ 100000 := pickB_size hup han
          with_unfolding_all refine' cutP (fun v => v = Value.bool (decide (vidx = 0) && hasB d #[13, 10])) F8 N8 ?walk ?cont
          case walk =>
            rename Mark => hmk9
            clear hmk9
            k_steps
            all_goals first
              | exact MidP.mk (by assumption) (by assumption) (fun _ hp => hp) (b_and_t (by assumption))
              | exact MidP.mk (by assumption) (by assumption) (fun _ hp => hp) (b_and_f (by assumption))
          case cont =>
            intro bv h8 kk8 F9 N9 hbv
            subst hbv
            clear F8 N8
            k_steps
            refine Halt.go ?_
            rename Fr _ _ _ _ => F8
            rename News _ _ _ _ => N8
            with_unfolding_all refine' cutP (MadeIs k0 (downB d) ans) F8 N8 ?walk ?cont
            case walk =>
              rename Mark => hmk9
              clear hmk9
              k_steps
              all_goals first
                | exact MidP.mk (by assumption) (by assumption) (fun _ hp => hp) (made_a (by assumption))
                | exact MidP.mk (by assumption) (by assumption) (fun _ hp => hp) (made_b (by assumption))
            case cont =>
              intro mv h10 kk10 F10 N10 hmv
              obtain ⟨tmv, emv⟩ := hmv
              subst emv
              clear F8 N8 
              k_steps
              w_top off
              refine Halt.go ?_
              rename Fr _ _ _ _ => F8
              rename News _ _ _ _ => N8
              clear qk ek
              revert F8 N8
              repeat (rename Fr _ _ _ _ => hz9; clear hz9)
              repeat (rename News _ _ _ _ => hz9; clear hz9)
              rename Below _ _ _ _ => hz9
              clear hz9
              clear lifted
              intro F8 N8
              with_unfolding_all refine' cutP (fun v => v = Value.bool (decide (vonly = 0) && hasB d #[13])) F8 N8 ?walk ?cont
              case walk =>
                rename Mark => hmk9
                clear hmk9
                k_steps
                all_goals first
                  | exact MidP.mk (by assumption) (by assumption) (fun _ hp => hp) (b_and_t (by assumption))
                  | exact MidP.mk (by assumption) (by assumption) (fun _ hp => hp) (b_and_f (by assumption))
              case cont =>
                intro bv h8 kk8 F9 N9 hbv
                subst hbv
                clear F8 N8
                k_steps
                refine Halt.go ?_
                rename Fr _ _ _ _ => F8
                rename News _ _ _ _ => N8
                with_unfolding_all refine' cutP (MadeIs k1 (upB d) ans) F8 N8 ?walk ?cont
                case walk =>
                  rename Mark => hmk9
                  clear hmk9
                  k_steps
                  all_goals first
                    | exact MidP.mk (by assumption) (by assumption) (fun _ hp => hp) (made_a (by assumption))
                    | exact MidP.mk (by assumption) (by assumption) (fun _ hp => hp) (made_b (by assumption))
                case cont =>
                  intro mv h10 kk10 F10 N10 hmv
                  obtain ⟨tmu, emv⟩ := hmv
                  subst emv
                  clear F8 N8 
                  k_steps
                  refine Halt.go ?_
                  rename Fr _ _ _ _ => F8
                  rename News _ _ _ _ => N8
                  rename Top _ _ _ _ _ (ghostOf _ _) => T8
                  refine with_own fown cown _ _ Lc _ _ oca oan ans N8 T8 (by k_mem) (by k_mem) (by k_mem) (by k_mem) ?own ?_
                  case own =>
                    clear F8 N8 T8
                    intro dp un gd cn cs a ccd cl outer A₀ base h₀ L m s Q E us n b t news B F X N T hk ho hne hl hdp hu hret
                    have e1 := ho _ List.mem_cons_self
                    have e2 := ho _ (List.mem_cons_of_mem _ List.mem_cons_self)
                    have e3 := ho _ (List.mem_cons_of_mem _ (List.mem_cons_of_mem _ List.mem_cons_self))
                    have e4 := ho _ (List.mem_cons_of_mem _ (List.mem_cons_of_mem _ (List.mem_cons_of_mem _ List.mem_cons_self)))
                    clear ho
                    refine wpAny_call ?_
                    k_dflt (refine' code_nest ?k1 ?k2 ?k3 ?k4 ?k5 ?kA ?kF ?kK ?k6 ?k7 ?k8 ?k9 ?kB ?_ ?c2 ?c3 ?c4 ?c5; (case kA => exact rfl); (case kF => exact rfl); (case kK => assumption); (case k1 => k_asm); (case k2 => k_asm); (case k3 => k_asm); (case k4 => k_asm); (case k5 => k_asm); (case k6 => k_mem); (case k7 => exact codeRec_news (by k_asm) (by k_mem) (by assumption) (by assumption)); (case k8 => ktr_room); (case k9 => exact BindsTo.of_eq rfl); (case c5 => decide); (case kB => exact locs rfl); (case c2 => exact rfl); (case c3 => exact rfl); (case c4 => exact rfl); k_whole; intro g' L' h' FG' F' N' B' X' T'; (try dsimp only); (try k_lift B'); (try k_fold))
                    k_steps
                    exact hret _ _ _ _ _ (by assumption) (by assumption)
                  intro hO
                  have N9 := pick N8 (a := Lc) (by k_mem) (pick N8 (o := methodObj _ _) (by k_mem) (pick N8 (o := instObj _ _) (by k_mem) (pick N8 (o := dictOf _ _) (by k_mem) (pick N8 (a := fown) (by k_mem) (pick N8 (a := fown) (by k_mem) (pick N8 (a := cown) (by k_mem) (pick N8 (o := oca) (by k_mem) (pick N8 (o := oan) (by k_mem) (pick N8 (a := Tk) (by k_mem) (pick N8 (a := 129) (by k_mem) News.nil))))))))))
                  k_dflt (refine' CY.use0 (us := []) (ds := []) N9 (c_tryin _ _ _ _ _ _ _ _ _ _ _ _ _ _ _ _ _ _ _ _ _ _ _ [] [] _ _ _ _ _ _ _ _ cv sv iv _ _ sf d ans k0 vidx hcv hiv ?hd ?ha hsf hO ?hown) ?k1 F8 ?k3 ?k5 ?kK BA.nil ?hne ?hl ?kd ?ku ?_)
                  case k1 => k_asm
                  case k3 => k_asm
                  case k5 => k_asm
                  case kK => exact rfl
                  case hd => omega
                  case ha => exact hans
                  case hl => exact Nat.zero_le _
                  case kd => ktr_room
                  case ku => ktr_units
                  case hown => exact fun e he => List.mem_append_left [_, _] he
                  case hne =>
                    simp only [List.forall_mem_cons]
                    (refine ⟨?_, ?_, ?_, ?_, ?_, ?_, ?_, ?_, ?_, ?_, fun _ h => nomatch h⟩) <;> k_ne
                  intro us9 n9 t9 h9 tk9 hb9 F9 N9'
                  clear F8 N8 N9
                  simp only [List.nil_append] at hb9
                  simp only [wayN_K] at F9
                  have hn0 := wayK_le d k0 (vdet == 0) (decide (vidx = 0) && hasB d #[13, 10])
                  have hn1 := wayK_le d k1 (vdet == 0) (decide (vonly = 0) && hasB d #[13])
                  generalize wayK d k0 (vdet == 0) (decide (vidx = 0) && hasB d #[13, 10]) = n0 at hb9 F9 hn0
                  k_steps
                  refine Halt.go ?_
                  rename Fr _ _ _ _ => F8
                  rename News _ _ _ _ => N8
                  have N9 := pick N8 (a := Lc) (by k_mem) (pick N8 (o := methodObj (.ref 52) _) (by k_mem) (pick N8 (o := instObj _ _) (by k_mem) (pick N8 (o := dictOf _ _) (by k_mem) (pick N8 (a := fown) (by k_mem) (pick N8 (a := fown) (by k_mem) (pick N8 (a := cown) (by k_mem) (pick N8 (o := oca) (by k_mem) (pick N8 (o := oan) (by k_mem) (pick N8 (a := Tk) (by k_mem) (pick N8 (a := 129) (by k_mem) News.nil))))))))))
                  k_dflt (refine' CY.use0 N9 (c_tryout _ _ _ _ _ _ _ _ _ _ _ _ _ _ _ _ _ _ _ _ _ _ _ us9 _ _ _ _ _ _ _ _ _ cv sv iv _ _ sf d ans k1 hsv ?hd ?ha hsf hO ?hown) ?k1 F8 ?k3 ?k5 ?kK hb9 ?hne ?hl ?kd ?ku ?_)
                  case k1 => k_asm
                  case k3 => k_asm
                  case k5 => k_asm
                  case kK => exact rfl
                  case hd => omega
                  case ha => exact hans
                  case hl => rw [hb9.length, List.length_replicate]; omega
                  case kd => ktr_room
                  case ku => ktr_units
                  case hown => exact fun e he => List.mem_append_left [_, _] he
                  case hne =>
                    simp only [List.forall_mem_cons]
                    (refine ⟨?_, ?_, ?_, ?_, ?_, ?_, ?_, ?_, ?_, ?_, fun _ h => nomatch h⟩) <;> k_ne
                  intro us8 n8 t8 h8 tk8 hb8 F9 N9'
                  clear F8 N8 N9 hb9
                  rw [show (vonly == 0) = decide (vonly = 0) from rfl] at hb8
                  rw [show (vonly == 0) = decide (vonly = 0) from rfl]
                  have hb9 : BA us8 (List.replicate n0 d ++ List.replicate (wayK d k1 (vdet == 0) (decide (vonly = 0) && hasB d #[13])) d) := hb8
                  clear hb8
                  rw [List.replicate_append_replicate] at hb9
                  generalize wayK d k1 (vdet == 0) (decide (vonly = 0) && hasB d #[13]) = n1 at hb9 F9 hn1
                  k_steps
                  refine Halt.go ?_
                  rename Fr _ _ _ _ => F8
                  rename News _ _ _ _ => N8
                  with_unfolding_all refine' cutP (DueIs k1 d (upB d) ans) F8 N8 ?walk ?cont
                  case walk =>
                    rename Mark => hmk9
                    clear hmk9
                    k_steps
                    all_goals refine MidP.mk (by assumption) (by assumption) (fun _ hp => hp) ?_
                    all_goals with_reducible first
                      | exact due_0 (by assumption)
                      | exact due_b (by rename hasB _ _ = true => hq9; with_unfolding_all exact hq9)
                      | exact due_1 (by rename hasB _ _ = false => hq9; with_unfolding_all exact hq9) (by assumption)
                      | exact due_2 (by assumption) (by rename hasB _ _ = false => hq9; with_unfolding_all exact hq9) (by assumption)
                  case cont =>
                    intro dv h10 kk10 F10 N10 hdv
                    obtain ⟨tdv, edv⟩ := hdv
                    subst edv
                    clear F8 N8
                    k_steps
                    refine Halt.go ?_
                    rename Fr _ _ _ _ => F8
                    rename News _ _ _ _ => N8
                    have N9 := pick N8 (a := Lc) (by k_mem) (pick N8 (o := instObj _ _) (by k_mem) (pick N8 (o := dictOf _ _) (by k_mem) (pick N8 (a := fown) (by k_mem) (pick N8 (a := fown) (by k_mem) (pick N8 (a := cown) (by k_mem) (pick N8 (o := oca) (by k_mem) (pick N8 (o := oan) (by k_mem) (pick N8 (a := Tk) (by k_mem) (pick N8 (a := 129) (by k_mem) News.nil)))))))))
                    k_dflt (refine' CY.use0 N9 (c_plainout _ _ _ _ _ _ _ _ _ _ _ _ _ _ _ _ _ _ _ _ _ _ us8 _ _ _ _ _ _ _ _ _ cv sv d ans k1 hsv ?hd ?ha hO ?hown) ?k1 F8 ?k3 ?k5 ?kK hb9 ?hne ?hl ?kd ?ku ?_)
                    case k1 => k_asm
                    case k3 => k_asm
                    case k5 => k_asm
                    case kK => exact rfl
                    case hd => omega
                    case ha => exact hans
                    case hl => rw [hb9.length, List.length_replicate]; omega
                    case kd => ktr_room
                    case ku => ktr_units
                    case hown => exact fun e he => List.mem_append_left [_, _] he
                    case hne =>
                      simp only [List.forall_mem_cons]
                      (refine ⟨?_, ?_, ?_, ?_, ?_, ?_, ?_, ?_, ?_, fun _ h => nomatch h⟩) <;> k_ne
                    intro us7 n7 t7 h7 tk7 hb7 F9 N9'
                    clear F8 N8 N9 hb9
                    k_steps
                    refine Halt.go ?_
                    rename Fr _ _ _ _ => F8
                    rename News _ _ _ _ => N8
                    have hlk : us7.length ≤ 100 := by
                      have e := hb7.length
                      have e2 := wayK_le d k1 true false
                      rw [List.length_append, List.length_replicate, List.length_replicate] at e
                      omega
                    k_dflt (refine' CY.use0 N8 (c_plainin _ _ _ _ _ _ _ _ _ _ _ _ _ _ _ _ _ _ _ _ _ _ us7 _ _ _ _ _ _ _ _ _ cv sv d ans k0 hcv ?hd ?ha hO ?hown) ?k1 F8 ?k3 ?k5 ?kK hb7 ?hne hlk ?kd ?ku ?_)
                    case k1 => k_asm
                    case k3 => k_asm
                    case k5 => k_asm
                    case kK => exact rfl
                    case hd => omega
                    case ha => exact hans
                    case kd => ktr_room
                    case ku => ktr_units
                    case hown => exact fun e he => List.mem_append_left [_, _] he
                    case hne =>
                      simp only [List.forall_mem_cons]
                      (refine ⟨?_, ?_, ?_, ?_, ?_, ?_, ?_, ?_, ?_, fun _ h => nomatch h⟩) <;> k_ne
                    intro us6 n6 t6 h6' tk6 hb6 F9 N9'
                    clear F8 N8 hb7
                    k_steps
                    refine Halt.go ?_
                    rename Fr _ _ _ _ => F8
                    rename News _ _ _ _ => N8
                    with_unfolding_all refine' cutP (DueIs k0 d (downB d) ans) F8 N8 ?walk ?cont
                    case walk =>
                      rename Mark => hmk9
                      clear hmk9
                      k_steps
                      all_goals refine MidP.mk (by assumption) (by assumption) (fun _ hp => hp) ?_
                      all_goals with_reducible first
                        | exact due_0 (by assumption)
                        | exact due_b (by rename hasB _ _ = true => hq9; with_unfolding_all exact hq9)
                        | exact due_1 (by rename hasB _ _ = false => hq9; with_unfolding_all exact hq9) (by assumption)
                        | exact due_2 (by assumption) (by rename hasB _ _ = false => hq9; with_unfolding_all exact hq9) (by assumption)
                    case cont =>
                      intro dv2 h11 kk11 F10 N10 hdv
                      obtain ⟨tdv2, edv⟩ := hdv
                      subst edv
                      clear F8 N8
                      k_steps)
end Mine

theorem PySem.Challenge.cw_at6009_01_holds : PySem.Challenge.rw_at6009_01.Holds := by
  exact Mine.w_main
