import PyProof.Rows.All
import Wide.All
import OpenK.AllK
import Wide.FinOn
import PySem.Challenge.RW_ab6011_01
open PySem PySem.W PyProof.Rows
set_option Elab.async false
namespace Mine
section
set_option maxRecDepth 100000 in
set_option maxHeartbeats 8000000 in
open_top tp for PySem.Challenge.rw_ab6011_01
end
section
open PySem.Calls
theorem sub_ss : isSubtype (.type "str") (.type "str") = pure true := by rw [isSubtype_type]; kernel_rfl
theorem sub_bs : isSubtype (.type "bytes") (.type "str") = pure false := by rw [isSubtype_type]; kernel_rfl
theorem sub_bb : isSubtype (.type "bytes") (.type "bytes") = pure true := by rw [isSubtype_type]; kernel_rfl
theorem sub_tt : isSubtype (.type "tuple") (.type "tuple") = pure true := by rw [isSubtype_type]; kernel_rfl
theorem pm_str : (Value.type ((Manifest.find? "str").elim "type" fun x => x.metatype) == Value.type "type") = true := by decide +kernel
theorem pm_bytes : (Value.type ((Manifest.find? "bytes").elim "type" fun x => x.metatype) == Value.type "type") = true := by decide +kernel
theorem kind_isn : builtinKind "issubclass.nested" = none := by decide +kernel
theorem plain_isn : plainId "issubclass.nested" = true := by decide +kernel
theorem args_isn (a b c : Value) : argsOk "issubclass.nested" ⟨[a, b, c], []⟩ := by unfold argsOk; kernel_rfl
section
variable {prog : Program} {w : World} {A : Around} {E : Value → Shared → Prop} {s : Shared}
theorem isn_type {X Y : String} {b : Bool} {k : Value} {dep : Int} {tk : Tok} {Q : Fin → Shared → Prop} (hk : k = .int dep tk) (hm : (Value.type ((Manifest.find? Y).elim "type" fun x => x.metatype) == Value.type "type") = true)
    (hs : isSubtype (.type X) (.type Y) = pure b) (hq : Q (.done (.ret (.bool b))) s) :
    wpAny (model prog w) A (Builtin.«issubclass.nested» ⟨[.type X, .type Y, k], []⟩) Q E s := by
  subst hk
  repeat (any_goals (first | assumption | (rw [if_pos hm]) | (rw [hs]) | wp_step))
theorem isn_call {X Y : String} {b : Bool} {k : Value} {dep : Int} {tk : Tok} {Q : Value → Shared → Prop} (hk : k = .int dep tk) (hm : (Value.type ((Manifest.find? Y).elim "type" fun x => x.metatype) == Value.type "type") = true)
    (hs : isSubtype (.type X) (.type Y) = pure b) (hq : Q (.bool b) s) :
    wpAny (model prog w) A (call (.builtin "issubclass.nested") [.type X, .type Y, k]) Q E s :=
  call_function_entry kind_isn plain_isn F.entry_issubclass_nested (args_isn _ _ _) (isn_type hk hm hs ⟨_, rfl, hq⟩)
theorem isn_tupS {D : Addr} {k : Nat} {X : String} {Q : Fin → Shared → Prop} (hD : s.heap.get? D = some ({ cls := .type "tuple", data := .seq #[.type "str", .type "bytes"] k } : Obj))
    (hs : isSubtype (.type X) (.type "str") = pure true) (hq : Q (.done (.ret (.bool true))) s) :
    wpAny (model prog w) A (Builtin.«issubclass.nested» ⟨[.type X, .ref D, rawInt 0], []⟩) Q E s := by
  have hT : s.TypeIs (.ref D) "tuple" := (show ∃ o, s.heap.get? D = some o ∧ o.cls = .type "tuple" from ⟨_, hD, rfl⟩)
  have ht := sub_tt
  repeat (any_goals (first | assumption | (refine isn_call (Y := "str") rfl pm_str hs ?_) | wp_step))
theorem isn_tupB {D : Addr} {k : Nat} {X : String} {Q : Fin → Shared → Prop} (hD : s.heap.get? D = some ({ cls := .type "tuple", data := .seq #[.type "str", .type "bytes"] k } : Obj))
    (hs : isSubtype (.type X) (.type "str") = pure false) (hs2 : isSubtype (.type X) (.type "bytes") = pure true) (hq : Q (.done (.ret (.bool true))) s) :
    wpAny (model prog w) A (Builtin.«issubclass.nested» ⟨[.type X, .ref D, rawInt 0], []⟩) Q E s := by
  have hT : s.TypeIs (.ref D) "tuple" := (show ∃ o, s.heap.get? D = some o ∧ o.cls = .type "tuple" from ⟨_, hD, rfl⟩)
  have ht := sub_tt
  repeat (any_goals (first | assumption | (refine isn_call (Y := "str") rfl pm_str hs ?_) | (refine isn_call (Y := "bytes") rfl pm_bytes hs2 ?_) | wp_step))
theorem issub_S {D : Addr} {k : Nat} {Q : Value → Shared → Prop} (hD : s.heap.get? D = some ({ cls := .type "tuple", data := .seq #[.type "str", .type "bytes"] k } : Obj))
    (hq : Q (.bool true) s) : wpAny (model prog w) A (call (.builtin "issubclass") [.type "str", .ref D]) Q E s :=
  call_issubclass (S := fun _ R s' => s'.heap.get? D = some ({ cls := .type "tuple", data := .seq #[.type "str", .type "bytes"] k } : Obj) ∧ R (.ok (.ret (.bool true))) s') (fun _ _ _ _ _ h => issubclass_outer (isn_tupS h.1 sub_ss h.2)) ⟨hD, hq⟩
theorem issub_B {D : Addr} {k : Nat} {Q : Value → Shared → Prop} (hD : s.heap.get? D = some ({ cls := .type "tuple", data := .seq #[.type "str", .type "bytes"] k } : Obj))
    (hq : Q (.bool true) s) : wpAny (model prog w) A (call (.builtin "issubclass") [.type "bytes", .ref D]) Q E s :=
  call_issubclass (S := fun _ R s' => s'.heap.get? D = some ({ cls := .type "tuple", data := .seq #[.type "str", .type "bytes"] k } : Obj) ∧ R (.ok (.ret (.bool true))) s') (fun _ _ _ _ _ h => issubclass_outer (isn_tupB h.1 sub_bs sub_bb h.2)) ⟨hD, hq⟩
theorem issub_SN {h₀ : Heap} {L D : Addr} {news : List (Addr × Obj)} {k : Nat} {Q : Value → Shared → Prop} (N : News h₀ L s.heap news) (hm : (D, ({ cls := .type "tuple", data := .seq #[.type "str", .type "bytes"] k } : Obj)) ∈ news)
    (hq : Q (.bool true) s) : wpAny (model prog w) A (call (.builtin "issubclass") [.type "str", .ref D]) Q E s := issub_S (N _ hm).1 hq
theorem issub_BN {h₀ : Heap} {L D : Addr} {news : List (Addr × Obj)} {k : Nat} {Q : Value → Shared → Prop} (N : News h₀ L s.heap news) (hm : (D, ({ cls := .type "tuple", data := .seq #[.type "str", .type "bytes"] k } : Obj)) ∈ news)
    (hq : Q (.bool true) s) : wpAny (model prog w) A (call (.builtin "issubclass") [.type "bytes", .ref D]) Q E s := issub_B (N _ hm).1 hq
end
end
section
/-- a contract of the def at f: called with vs it hands back R t (a value without an object of its own) -/
def CtrV (w : World) (mean : ExcName → Option Value) (mg mb : Str → Option Value) (f : Addr) (d u : Nat) (vs : List Value) (P : (Tok → Value) → Prop) : Prop :=
  ∀ (dp un : Nat) (gd : Option (List Code)) (cn : Str) (cs : Scope) (a : Addr) (ccd : Value) (cl : List (Str × Addr)) (outer : List Env) (A₀ : Around) (base h₀ : Heap) (L : Addr) (m : Str → Option Value) (news : List (Addr × Obj)) (s : Shared)
    (Q E : Value → Shared → Prop),
    Below A₀ base outer h₀ → Fr h₀ L s.heap m → (tp.heap_39 w.params).In h₀ → News h₀ L s.heap news → Top tp.view_39 (looseW tp.view_39 []) mean mg mb h₀ → cs.kind = .function → dp + d < recursionLimit → un + u < cLine →
    (∀ R, P R → ∀ t h' tk', Fr h₀ L h' m → News h₀ L h' news → Q (R t) { s with heap := h', toks := tk' }) →
    wpAny (model PySem.Challenge.rw_ab6011_01.row.prog w) (ktrTop dp un gd cn cs L a ccd cl outer) (call (.ref f) vs) Q E s
/-- the same for a def that hands back a new tuple of two -/
def CtrP (w : World) (mean : ExcName → Option Value) (mg mb : Str → Option Value) (f : Addr) (d u : Nat) (vs : List Value) (R₁ R₂ : Tok → Value) : Prop :=
  ∀ (dp un : Nat) (gd : Option (List Code)) (cn : Str) (cs : Scope) (a : Addr) (ccd : Value) (cl : List (Str × Addr)) (outer : List Env) (A₀ : Around) (base h₀ : Heap) (L : Addr) (m : Str → Option Value) (news : List (Addr × Obj)) (s : Shared)
    (Q E : Value → Shared → Prop),
    Below A₀ base outer h₀ → Fr h₀ L s.heap m → (tp.heap_39 w.params).In h₀ → News h₀ L s.heap news → Top tp.view_39 (looseW tp.view_39 []) mean mg mb h₀ → cs.kind = .function → dp + d < recursionLimit → un + u < cLine →
    (∀ (r : Addr) (t₁ t₂ : Tok) (k : Nat) h' tk', Fr h₀ L h' m → News h₀ L h' (news ++ [(r, ({ cls := .type "tuple", data := .seq #[R₁ t₁, R₂ t₂] k } : Obj))]) → (∀ q ∈ news, q.1 < r) → Q (.ref r) { s with heap := h', toks := tk' }) →
    wpAny (model PySem.Challenge.rw_ab6011_01.row.prog w) (ktrTop dp un gd cn cs L a ccd cl outer) (call (.ref f) vs) Q E s

section
variable {w : World} {mean : ExcName → Option Value} {mg mb : Str → Option Value} {f : Addr} {d u : Nat} {vs : List Value} {P : (Tok → Value) → Prop}
  {dp un : Nat} {gd : Option (List Code)} {cn : Str} {cs : Scope} {a : Addr} {ccd : Value} {cl : List (Str × Addr)} {outer : List Env} {A₀ : Around} {base h₀ : Heap} {L : Addr} {m : Str → Option Value} {news : List (Addr × Obj)} {s : Shared}
  {Q E : Value → Shared → Prop}
theorem useV (C : CtrV w mean mg mb f d u vs P) (B : Below A₀ base outer h₀) (F : Fr h₀ L s.heap m) (X : (tp.heap_39 w.params).In h₀) (N : News h₀ L s.heap news) (T : Top tp.view_39 (looseW tp.view_39 []) mean mg mb h₀)
    (hk : cs.kind = .function) (hd : dp + d < recursionLimit) (hu : un + u < cLine) (h : ∀ R, P R → ∀ t h' tk', Fr h₀ L h' m → News h₀ L h' news → Q (R t) { s with heap := h', toks := tk' }) :
    wpAny (model PySem.Challenge.rw_ab6011_01.row.prog w) (ktrTop dp un gd cn cs L a ccd cl outer) (call (.ref f) vs) Q E s :=
  C dp un gd cn cs a ccd cl outer A₀ base h₀ L m news s Q E B F X N T hk hd hu h
theorem useE {R : Tok → Value} (C : CtrV w mean mg mb f d u vs (fun R' => R' = R)) (B : Below A₀ base outer h₀) (F : Fr h₀ L s.heap m) (X : (tp.heap_39 w.params).In h₀) (N : News h₀ L s.heap news) (T : Top tp.view_39 (looseW tp.view_39 []) mean mg mb h₀)
    (hk : cs.kind = .function) (hd : dp + d < recursionLimit) (hu : un + u < cLine) (h : ∀ t h' tk', Fr h₀ L h' m → News h₀ L h' news → Q (R t) { s with heap := h', toks := tk' }) :
    wpAny (model PySem.Challenge.rw_ab6011_01.row.prog w) (ktrTop dp un gd cn cs L a ccd cl outer) (call (.ref f) vs) Q E s :=
  C dp un gd cn cs a ccd cl outer A₀ base h₀ L m news s Q E B F X N T hk hd hu (fun _ e => by rw [e]; exact h)
theorem useP {R₁ R₂ : Tok → Value} (C : CtrP w mean mg mb f d u vs R₁ R₂) (B : Below A₀ base outer h₀) (F : Fr h₀ L s.heap m) (X : (tp.heap_39 w.params).In h₀) (N : News h₀ L s.heap news) (T : Top tp.view_39 (looseW tp.view_39 []) mean mg mb h₀)
    (hk : cs.kind = .function) (hd : dp + d < recursionLimit) (hu : un + u < cLine) (h : ∀ (r : Addr) (t₁ t₂ : Tok) (k : Nat) h' tk', Fr h₀ L h' m → News h₀ L h' (news ++ [(r, ({ cls := .type "tuple", data := .seq #[R₁ t₁, R₂ t₂] k } : Obj))]) → (∀ q ∈ news, q.1 < r) → Q (.ref r) { s with heap := h', toks := tk' }) :
    wpAny (model PySem.Challenge.rw_ab6011_01.row.prog w) (ktrTop dp un gd cn cs L a ccd cl outer) (call (.ref f) vs) Q E s :=
  C dp un gd cn cs a ccd cl outer A₀ base h₀ L m news s Q E B F X N T hk hd hu h
theorem retP {R₁ R₂ : Tok → Value} (hret : ∀ (r : Addr) (t₁ t₂ : Tok) (k : Nat) h' tk', Fr h₀ L h' m → News h₀ L h' (news ++ [(r, ({ cls := .type "tuple", data := .seq #[R₁ t₁, R₂ t₂] k } : Obj))]) → (∀ q ∈ news, q.1 < r) → Q (.ref r) { s with heap := h', toks := tk' })
    {D : Addr} {v₁ v₂ : Value} {k : Nat} {h' : Heap} {tk' : Nat} {t₁ t₂ : Tok} (F : Fr h₀ L h' m) (N : News h₀ L h' ((D, ({ cls := .type "tuple", data := .seq #[v₁, v₂] k } : Obj)) :: news)) (hlt : ∀ p ∈ news, p.1 < D) (e₁ : v₁ = R₁ t₁) (e₂ : v₂ = R₂ t₂) : Q (.ref D) { s with heap := h', toks := tk' } := by
  subst e₁ e₂
  refine hret D t₁ t₂ k h' tk' F (fun p hp => N p ?_) hlt
  rcases List.mem_append.mp hp with hp | hp
  · exact .tail _ hp
  · rw [List.mem_singleton.mp hp]; exact .head _
theorem retE {R : Tok → Value} (hret : ∀ R', R' = R → ∀ t h' tk', Fr h₀ L h' m → News h₀ L h' news → Q (R' t) { s with heap := h', toks := tk' }) {t : Tok} {h' : Heap} {tk' : Nat} (F : Fr h₀ L h' m) (N : News h₀ L h' news) : Q (R t) { s with heap := h', toks := tk' } := hret R rfl t h' tk' F N
end
theorem sub_of {h₀ h : Heap} {L : Addr} {l l' : List (Addr × Obj)} (N : News h₀ L h l') (hs : ∀ p ∈ l, p ∈ l') : News h₀ L h l := fun p hp => N p (hs p hp)
end
section
open PySem.Calls
namespace RB
open Builtin
set_option maxRecDepth 100000
theorem slot_rfind : Slot "bytes" "rfind" "bytes.rfind" :=
  .of (owner := "bytes") (n := "rfind") (by rw [typeLookup_type, builtinLookup_eq_fast]; kernel_rfl) (by decide +kernel) (by decide +kernel) (by decide +kernel)
    (by first | exact .inl (by decide +kernel) | exact .inr (by decide +kernel)) (by rw [isSubtype_type]; kernel_rfl)
theorem type_rfind : typeOf (.builtin "bytes.rfind") = pure (.type "method_descriptor") := by show builtinType _ = _; rw [builtinType_eq_fast]; kernel_rfl
theorem entry_rfind : entryFor table "bytes.rfind" = some Builtin.«bytes.rfind» := entryFor_of_tree (by kernel_rfl)
theorem args_rfind (a b : Value) : argsOk "bytes.rfind" ⟨[a, b], []⟩ := by
  unfold argsOk; rw [signature?_of (id := "bytes.rfind") (n := ['d', 'n', 'i', 'f', 'r']) (o := ['s', 'e', 't', 'y', 'b']) (by kernel_rfl) FB.owner_bytes]; kernel_rfl
theorem slot_rstrip : Slot "bytes" "rstrip" "bytes.rstrip" :=
  .of (owner := "bytes") (n := "rstrip") (by rw [typeLookup_type, builtinLookup_eq_fast]; kernel_rfl) (by decide +kernel) (by decide +kernel) (by decide +kernel)
    (by first | exact .inl (by decide +kernel) | exact .inr (by decide +kernel)) (by rw [isSubtype_type]; kernel_rfl)
theorem type_rstrip : typeOf (.builtin "bytes.rstrip") = pure (.type "method_descriptor") := by show builtinType _ = _; rw [builtinType_eq_fast]; kernel_rfl
theorem entry_rstrip : entryFor table "bytes.rstrip" = some Builtin.«bytes.rstrip» := entryFor_of_tree (by kernel_rfl)
theorem args_rstrip (a b : Value) : argsOk "bytes.rstrip" ⟨[a, b], []⟩ := by
  unfold argsOk; rw [signature?_of (id := "bytes.rstrip") (n := ['p', 'i', 'r', 't', 's', 'r']) (o := ['s', 'e', 't', 'y', 'b']) (by kernel_rfl) FB.owner_bytes]; kernel_rfl
/-- the last place of c in b, or -1 -/
def brf (b : Array UInt8) (c : UInt8) : Int := match Bytes.rfind? b #[c] 0 b.size with | some i => (i : Int) | none => -1
def brs (b : Array UInt8) (c : UInt8) : Array UInt8 := (b.toList.reverse.dropWhile (#[c].contains)).reverse.toArray
theorem like_eq {b : Array UInt8} {t : Tok} {id : String} : Bytes.bytesLike id (.bytes b t) = pure b := by
  unfold Bytes.bytesLike
  rw [KBy.buffer_eq]
  rfl
theorem gives_rfind (b : Array UInt8) (c : UInt8) (t u : Tok) : Gives («bytes.rfind» ⟨[.bytes b t, .bytes #[c] u], []⟩) (.int (brf b c)) := by
  refine .of_wp fun M A E s Q hq => ?_
  have hb : ∀ id, Bytes.buffer? id ([Value.bytes #[c] u].headD .none) = pure (some #[c]) := fun id => KBy.buffer_eq
  show wpAny M A (Bytes.searchM .bytes "rfind" true false ⟨[.bytes b t, .bytes #[c] u], []⟩) _ E s
  unfold Bytes.searchM Bytes.searchArgs
  repeat (any_goals (first | (rw [hb]) | wp_step))
  have key : ∀ (tag : String) (X : Sem Fin) (o : Option Nat), o = Bytes.rfind? b #[c] 0 b.size → wpAny M A (match o with | some i => retInt i | none => (do rule tag; if false = true then X else retInt (-1))) (fun fin s' => ∃ v, fin = .done (.ret v) ∧ Q v s') E s := by
    intro tag X o ho
    unfold brf at hq
    rw [← ho] at hq
    cases o with
    | none =>
      refine wpAny_bind (wpAny_rule ?_)
      rw [if_neg Bool.false_ne_true]
      exact wpAny_bind (wpAny_mkInt (wpAny_pure ⟨_, rfl, hq⟩))
    | some i => exact wpAny_bind (wpAny_mkInt (wpAny_pure ⟨_, rfl, hq⟩))
  refine key _ _ _ ?_
  have e1 : (Bytes.window b.size none none).1 = 0 := rfl
  have e2 : (Bytes.window b.size none none).2 = (b.size : Int) := by
    unfold Bytes.window
    simp only [Option.getD_none]
    rw [if_neg (by omega)]
    exact Int.min_self _
  rw [e1, e2]
  by_cases h : (b.size : Int) - 0 < ((#[c].size : Nat) : Int)
  · rw [if_pos h]
    have hz : b.size = 0 := by simp at h; omega
    rw [hz]
    rfl
  · rw [if_neg h]
    rfl
theorem gives_rstrip (b : Array UInt8) (c : UInt8) (t u : Tok) : Gives («bytes.rstrip» ⟨[.bytes b t, .bytes #[c] u], []⟩) (if (brs b c).size = b.size then .val (.bytes b t) else .bytes (brs b c)) := by
  refine .of_wp fun M A E s Q hq => ?_
  show wpAny M A (Bytes.bytesLike "bytes.rstrip" (.bytes #[c] u) >>= fun r => _) _ E s
  rw [like_eq]
  refine wpAny_bind (wpAny_pure ?_)
  refine wpAny_bind (wpAny_pure ?_)
  show wpAny M A (Bytes.payload (.bytes b t) >>= fun r => _) _ E s
  refine wpAny_bind (wpAny_of_eq (a := b) rfl ?_)
  show wpAny M A (if ((List.dropWhile (#[c].contains) b.toList.reverse).reverse.length == b.size) = true then _ else _) _ E s
  by_cases hs : (List.dropWhile (#[c].contains) b.toList.reverse).reverse.length = b.size
  · have h1 : (brs b c).size = b.size := by unfold brs; rw [List.size_toArray]; exact hs
    rw [if_pos h1] at hq
    rw [if_pos (by rw [hs]; exact beq_self_eq_true _)]
    exact wpAny_bind (wpAny_rule (wpAny_bind (wpAny_pure (wpAny_pure ⟨_, rfl, hq⟩))))
  · have h1 : ¬ (brs b c).size = b.size := by unfold brs; rw [List.size_toArray]; exact hs
    rw [if_neg h1] at hq
    rw [if_neg (by intro e; exact hs (beq_iff_eq.mp e))]
    exact wpAny_bind (wpAny_mkBytes (wpAny_pure ⟨_, rfl, hq.2⟩) hq.1)
section
variable {prog : Program} {w : World} {A : Around} {E : Value → Shared → Prop} {s : Shared} {b : Array UInt8} {c : UInt8} {t u : Tok} {Q : Value → Shared → Prop}
theorem rfind (h : Q (.int (brf b c) s.toks) { s with toks := s.toks + 1 }) : wpAny (model prog w) A (call (.builtin "bytes.rfind") [.bytes b t, .bytes #[c] u]) Q E s :=
  call_meets slot_rfind (typeIs_bytes _ _ _) entry_rfind (args_rfind _ _) (gives_rfind b c t u).meets h
theorem rstrip (h : ∀ t' k, Q (.bytes (brs b c) t') { s with toks := k }) (hz : b.size ≤ 16777216) : wpAny (model prog w) A (call (.builtin "bytes.rstrip") [.bytes b t, .bytes #[c] u]) Q E s := by
  refine call_meets slot_rstrip (typeIs_bytes _ _ _) entry_rstrip (args_rstrip _ _) (gives_rstrip b c t u).meets ?_
  have hle : (brs b c).size ≤ b.size := by
    unfold brs
    rw [List.size_toArray, List.length_reverse]
    have := (List.dropWhile_sublist (l := b.toList.reverse) (#[c].contains)).length_le
    rw [List.length_reverse, Array.length_toList] at this
    exact this
  by_cases hs : (brs b c).size = b.size
  · rw [if_pos hs]
    have e : brs b c = b := by
      unfold brs at hs ⊢
      rw [List.size_toArray, List.length_reverse] at hs
      have e2 : List.dropWhile (#[c].contains) b.toList.reverse = b.toList.reverse :=
        (List.dropWhile_sublist (l := b.toList.reverse) (#[c].contains)).eq_of_length (by rw [hs, List.length_reverse, Array.length_toList])
      rw [e2, List.reverse_reverse, Array.toArray_toList]
    have h' := h t s.toks
    rw [e] at h'
    exact h'
  · rw [if_neg hs]
    exact ⟨Nat.le_trans hle (by rw [sizeLine_eq]; exact hz), h _ _⟩
theorem m_rfind {M : Model} {pl : Sem Bool} {Q : Value × List Value → Shared → Prop} (h : Q (.builtin "bytes.rfind", [.bytes b t]) s) : wpAny M A (getMethod (.bytes b t) "rfind" pl) Q E s := by
  with_reducible exact KBd.method_of (.bytes b t) (typeIs_bytes _ _ _) slot_rfind type_rfind KBd.noRef h
theorem m_rstrip {M : Model} {pl : Sem Bool} {Q : Value × List Value → Shared → Prop} (h : Q (.builtin "bytes.rstrip", [.bytes b t]) s) : wpAny M A (getMethod (.bytes b t) "rstrip" pl) Q E s := by
  with_reducible exact KBd.method_of (.bytes b t) (typeIs_bytes _ _ _) slot_rstrip type_rstrip KBd.noRef h
theorem slice {value slice : PySem.Expr} {h₀ : Heap} {L : Addr} {m : PySem.Str → Option Value} {news : List (Addr × Obj)} {l u' : Value} {lo hi : Option Int}
    (hF : Fr h₀ L s.heap m) (hN : News h₀ L s.heap news) (hl : IsPart l lo) (hu : IsPart u' hi) (hz : b.size ≤ 16777216)
    (h : ∀ h' t' k, Fr h₀ L h' m → News h₀ L h' news → Q (.bytes (KBy.picked b lo hi) t') { s with heap := h', toks := k })
    (hs : subscripted slice false (.bytes b t) (.ref s.heap.objs.size) = operate [.ref s.heap.objs.size, .bytes b t] (getItem (.bytes b t) (.ref s.heap.objs.size)) := by with_unfolding_all rfl)
    (ht : ∀ r, letTemporaryGo value (.bytes b t) r = pure () := by intro _; with_unfolding_all rfl) :
    wpAny (model prog w) A (subscriptTail value slice (.bytes b t) (.ref s.heap.objs.size)) Q E { s with heap := s.heap.push { cls := .type "slice", data := .fields #[l, u', .none] } } :=
  tail_of_ItemOn ⟨"bytes", _, FB.slot_bytes_getitem.lookup, typeIs_bytes _ _ _, getItem_meets (typeIs_bytes _ _ _) (by decide) FB.slot_bytes_getitem FB.entry_bytes_getitem (FB.args_bytes_getitem_2 _ _) (KBc.meets_slice2 b t _ hl hu)
    ⟨Heap.IsSliceOf.new _ _ _ _, Nat.le_trans (KBc.size_picked_le b lo hi) (by rw [sizeLine_eq]; exact hz), fun t' k => h _ _ _ (hF.push _) (News.pushKeep hN _)⟩⟩ hs ht
theorem len {Q : Value → Shared → Prop} (hz : b.size ≤ 1000) (h : (b.size : Int) ≤ 1000 → Q (.int b.size (s.toks + 1)) { s with toks := s.toks + 1 + 1 }) : wpAny (model prog w) A (call (.builtin "len") [.bytes b t]) Q E s :=
  len_bytes (by omega) (h (by omega))
end
end RB
end
section
open PySem.Calls
/-! the plain law: texts are lists of codes, READ FROM THEIR END; 47 the slash, 46 the dot -/
section
variable {α : Type} (S D : α → Bool)
/-- the name: what stands behind the last slash -/
def nm (r : List α) : List α := r.takeWhile fun c => !S c
/-- the folder: what stands ahead, its slashes struck (unless there is nothing else) -/
def hdr (r : List α) : List α := let q := r.dropWhile fun c => !S c; if q.dropWhile S = [] then q else q.dropWhile S
def xt (n : List α) : List α := match n.dropWhile fun c => !D c with
  | [] => []
  | d :: a => if a.all D = true then [] else (n.takeWhile fun c => !D c) ++ [d]
/-- the ending -/
def en (r : List α) : List α := xt D (nm S r)
/-- what is left without the ending -/
def rt (r : List α) : List α := r.drop (en S D r).length
theorem tw_all {p : α → Bool} : ∀ {l : List α}, (∀ c ∈ l, p c = true) → l.takeWhile p = l
  | [], _ => rfl
  | x :: l, h => by
    rw [List.takeWhile_cons_of_pos (h x (.head _)), tw_all fun c hc => h c (.tail _ hc)]
theorem dw_all {p : α → Bool} : ∀ {l : List α}, (∀ c ∈ l, p c = true) → l.dropWhile p = []
  | [], _ => rfl
  | x :: l, h => by
    rw [List.dropWhile_cons_of_pos (h x (.head _)), dw_all fun c hc => h c (.tail _ hc)]
theorem tw_mem {p : α → Bool} : ∀ {l : List α} {c : α}, c ∈ l.takeWhile p → p c = true
  | x :: l, c, h => by
    cases hx : p x with
    | false => rw [List.takeWhile_cons_of_neg (by simp [hx])] at h; cases h
    | true =>
      rw [List.takeWhile_cons_of_pos hx] at h
      cases h with
      | head => exact hx
      | tail _ h => exact tw_mem h
theorem dw_head {p : α → Bool} : ∀ {l : List α} {c : α} {q : List α}, l.dropWhile p = c :: q → p c = false
  | x :: l, c, q, h => by
    cases hx : p x with
    | true => rw [List.dropWhile_cons_of_pos hx] at h; exact dw_head h
    | false => rw [List.dropWhile_cons_of_neg (by simp [hx])] at h; cases h; exact hx
theorem tw_app {p : α → Bool} {q : List α} (hq : q.takeWhile p = []) : ∀ {l : List α}, (∀ c ∈ l, p c = true) → (l ++ q).takeWhile p = l
  | [], _ => hq
  | x :: l, h => by
    rw [List.cons_append, List.takeWhile_cons_of_pos (h x (.head _)), tw_app hq fun c hc => h c (.tail _ hc)]
theorem dw_app {p : α → Bool} {q : List α} : ∀ {l : List α}, (∀ c ∈ l, p c = true) → (l ++ q).dropWhile p = q.dropWhile p
  | [], _ => rfl
  | x :: l, h => by
    rw [List.cons_append, List.dropWhile_cons_of_pos (h x (.head _)), dw_app fun c hc => h c (.tail _ hc)]
theorem tw_dw {p : α → Bool} (l : List α) : (l.dropWhile p).takeWhile p = [] := by
  cases h : l.dropWhile p with
  | nil => rfl
  | cons c q => rw [List.takeWhile_cons_of_neg (by simp [dw_head h])]
theorem dw_dw {p : α → Bool} (l : List α) : (l.dropWhile p).dropWhile p = l.dropWhile p := by
  cases h : l.dropWhile p with
  | nil => rfl
  | cons c q => rw [List.dropWhile_cons_of_neg (by simp [dw_head h])]
theorem nm_no {r : List α} {c : α} (h : c ∈ nm S r) : (!S c) = true := tw_mem (p := fun c => !S c) h
theorem nm_self {r : List α} (h : ∀ c ∈ r, (!S c) = true) : nm S r = r := tw_all h
theorem xt_pre (n : List α) : ∃ q, n = xt D n ++ q := by
  unfold xt
  cases h : n.dropWhile fun c => !D c with
  | nil => exact ⟨n, rfl⟩
  | cons d a =>
    dsimp only
    cases a.all D with
    | true => exact ⟨n, rfl⟩
    | false =>
      refine ⟨a, ?_⟩
      have e := (List.takeWhile_append_dropWhile (p := fun c => !D c) (l := n)).symm
      rw [h] at e
      simpa using e
theorem en_pre (r : List α) : ∃ q, nm S r = en S D r ++ q := xt_pre D (nm S r)
theorem en_no {r : List α} {c : α} (h : c ∈ en S D r) : (!S c) = true := by
  obtain ⟨q, e⟩ := en_pre S D r
  exact nm_no S (r := r) (by rw [e]; exact List.mem_append_left _ h)
theorem en_len (r : List α) : (en S D r).length ≤ (nm S r).length := by
  obtain ⟨q, e⟩ := en_pre S D r
  rw [e, List.length_append]
  omega
theorem nm_len (r : List α) : (nm S r).length ≤ r.length := (List.takeWhile_sublist _).length_le
theorem xt_xt (n : List α) : xt D (xt D n) = [] := by
  unfold xt
  cases h : n.dropWhile fun c => !D c with
  | nil => rfl
  | cons d a =>
    dsimp only
    cases a.all D with
    | true => rfl
    | false =>
      have hd : (!D d) = false := dw_head (p := fun c => !D c) h
      have e : (n.takeWhile (fun c => !D c) ++ [d]).dropWhile (fun c => !D c) = [d] := by
        rw [dw_app fun c hc => tw_mem (p := fun c => !D c) hc, List.dropWhile_cons_of_neg (by simp [hd])]
      simp only [Bool.false_eq_true, if_false]
      rw [e]
      rfl
-- the nine rules
theorem r_BB (r : List α) : nm S (nm S r) = nm S r := nm_self S fun _ => nm_no S
theorem r_BE (r : List α) : nm S (en S D r) = en S D r := nm_self S fun _ => en_no S D
theorem en_nm (r : List α) : en S D (nm S r) = en S D r := by unfold en; rw [r_BB]
theorem hd_no {r : List α} (h : ∀ c ∈ r, (!S c) = true) : hdr S r = [] := by
  unfold hdr
  rw [dw_all h]
  rfl
theorem r_DB (r : List α) : hdr S (nm S r) = [] := hd_no S fun _ => nm_no S
theorem r_DE (r : List α) : hdr S (en S D r) = [] := hd_no S fun _ => en_no S D
theorem rt_split (r : List α) : rt S D r = (nm S r).drop (en S D r).length ++ r.dropWhile fun c => !S c := by
  have e : r = nm S r ++ r.dropWhile fun c => !S c := (List.takeWhile_append_dropWhile (p := fun c => !S c) (l := r)).symm
  unfold rt
  conv => lhs; arg 2; rw [e]
  rw [List.drop_append_of_le_length (en_len S D r)]
theorem drop_no (r : List α) (k : Nat) : ∀ c ∈ (nm S r).drop k, (!S c) = true := fun _ h => nm_no S (List.mem_of_mem_drop h)
theorem r_SB (r : List α) : rt S D (nm S r) = nm S (rt S D r) := by
  have e : nm S (rt S D r) = (nm S r).drop (en S D r).length := by
    rw [rt_split S D r]
    exact tw_app (p := fun c => !S c) (tw_dw r) (drop_no S r _)
  rw [e]
  show (nm S r).drop (en S D (nm S r)).length = _
  rw [en_nm]
theorem r_DS (r : List α) : hdr S (rt S D r) = hdr S r := by
  rw [rt_split S D r]
  unfold hdr
  rw [dw_app (drop_no S r _), dw_dw]
theorem r_EE (r : List α) : en S D (en S D r) = [] := by
  show xt D (nm S (en S D r)) = []
  rw [r_BE]
  exact xt_xt D _
theorem r_SE (r : List α) : rt S D (en S D r) = en S D r := by
  unfold rt
  rw [r_EE]
  rfl
theorem nm_nil : nm S ([] : List α) = [] := rfl
theorem hd_nil : hdr S ([] : List α) = [] := rfl
theorem en_nil : en S D ([] : List α) = [] := rfl
theorem rt_nil : rt S D ([] : List α) = [] := rfl
theorem hd_len (r : List α) : (hdr S r).length ≤ r.length := by
  unfold hdr
  have h1 := (List.dropWhile_sublist (l := r) fun c => !S c).length_le
  have h2 := (List.dropWhile_sublist (l := r.dropWhile fun c => !S c) S).length_le
  dsimp only
  split <;> omega
theorem rt_len (r : List α) : (rt S D r).length ≤ r.length := by unfold rt; rw [List.length_drop]; omega
theorem en_len' (r : List α) : (en S D r).length ≤ r.length := Nat.le_trans (en_len S D r) (nm_len S r)
theorem nm_sub {r : List α} {c : α} (h : c ∈ nm S r) : c ∈ r := (List.takeWhile_sublist _).subset h
theorem en_sub {r : List α} {c : α} (h : c ∈ en S D r) : c ∈ r := by
  obtain ⟨q, e⟩ := en_pre S D r
  exact nm_sub S (by rw [e]; exact List.mem_append_left _ h)
theorem rt_sub {r : List α} {c : α} (h : c ∈ rt S D r) : c ∈ r := List.mem_of_mem_drop h
theorem hd_sub {r : List α} {c : α} (h : c ∈ hdr S r) : c ∈ r := by
  unfold hdr at h
  dsimp only at h
  split at h
  · exact (List.dropWhile_sublist _).subset h
  · exact (List.dropWhile_sublist _).subset ((List.dropWhile_sublist _).subset h)
end
/-- letters of a word: 66 B, 68 D, 69 E, 83 S, 90 Z -/
def deed (k : Nat) (r : List Nat) : List Nat :=
  if k = 66 then nm (· == 47) r else if k = 68 then hdr (· == 47) r else if k = 69 then en (· == 47) (· == 46) r else if k = 83 then rt (· == 47) (· == 46) r else []
/-- a word's meaning (its letters in the order written; the last is done first) -/
def sem : List Nat → List Nat → List Nat
  | [], r => r
  | k :: w, r => deed k (sem w r)
theorem deed_nil (k : Nat) : deed k [] = [] := by
  unfold deed
  repeat' split
  all_goals rfl
theorem sem_app (a b : List Nat) (r : List Nat) : sem (a ++ b) r = sem a (sem b r) := by
  induction a with
  | nil => rfl
  | cons k a ih => rw [List.cons_append]; show deed k _ = deed k _; rw [ih]
theorem sem_nil (a : List Nat) : sem a [] = [] := by
  induction a with
  | nil => rfl
  | cons k a ih => show deed k (sem a []) = []; rw [ih, deed_nil]
theorem deed_Z (r : List Nat) : deed 90 r = [] := rfl
theorem sem_Z {w : List Nat} (h : 90 ∈ w) (r : List Nat) : sem w r = [] := by
  obtain ⟨a, b, rfl⟩ := List.append_of_mem h
  rw [sem_app]
  show sem a (deed 90 _) = []
  rw [deed_Z, sem_nil]
/-- the measure of a word: falls at each rule -/
def wt : List Nat → Nat
  | [] => 0
  | k :: w => if k = 83 then 2 * wt w + 1 else wt w + 1
theorem wt_lt {a b : List Nat} (h : wt b < wt a) (p : List Nat) : wt (p ++ b) < wt (p ++ a) := by
  induction p with
  | nil => exact h
  | cons k p ih =>
    simp only [List.cons_append, wt]
    split <;> omega
/-- the rules, as they stand in the text -/
def rules : List (List Nat × List Nat) := [([66, 66], [66]), ([66, 69], [69]), ([83, 66], [66, 83]), ([68, 66], [90]), ([68, 69], [90]), ([68, 83], [68]), ([69, 66], [69]), ([69, 69], [90]), ([83, 69], [69])]
theorem rules_sem {l r : List Nat} (h : (l, r) ∈ rules) (x : List Nat) : sem l x = sem r x := by
  simp only [rules, List.mem_cons, List.not_mem_nil, or_false, Prod.mk.injEq] at h
  rcases h with ⟨rfl, rfl⟩ | ⟨rfl, rfl⟩ | ⟨rfl, rfl⟩ | ⟨rfl, rfl⟩ | ⟨rfl, rfl⟩ | ⟨rfl, rfl⟩ | ⟨rfl, rfl⟩ | ⟨rfl, rfl⟩ | ⟨rfl, rfl⟩
  · exact r_BB _ x
  · exact r_BE _ _ x
  · exact r_SB _ _ x
  · exact r_DB _ x
  · exact r_DE _ _ x
  · exact r_DS _ _ x
  · exact en_nm _ _ x
  · exact r_EE _ _ x
  · exact r_SE _ _ x
theorem rules_wt {l r : List Nat} (h : (l, r) ∈ rules) (b : List Nat) : wt (r ++ b) < wt (l ++ b) := by
  simp only [rules, List.mem_cons, List.not_mem_nil, or_false, Prod.mk.injEq] at h
  rcases h with ⟨rfl, rfl⟩ | ⟨rfl, rfl⟩ | ⟨rfl, rfl⟩ | ⟨rfl, rfl⟩ | ⟨rfl, rfl⟩ | ⟨rfl, rfl⟩ | ⟨rfl, rfl⟩ | ⟨rfl, rfl⟩ | ⟨rfl, rfl⟩ <;> simp [wt] <;> omega
theorem rule_sem {l r : List Nat} (h : (l, r) ∈ rules) (a b x : List Nat) : sem (a ++ r ++ b) x = sem (a ++ l ++ b) x := by
  simp only [sem_app, rules_sem h]
theorem rule_wt {l r : List Nat} (h : (l, r) ∈ rules) (a b : List Nat) : wt (a ++ r ++ b) < wt (a ++ l ++ b) := by
  rw [List.append_assoc, List.append_assoc]
  exact wt_lt (rules_wt h b) a
theorem deed_len (k : Nat) (r : List Nat) : (deed k r).length ≤ r.length := by
  unfold deed
  repeat' split
  · exact nm_len _ r
  · exact hd_len _ r
  · exact en_len' _ _ r
  · exact rt_len _ _ r
  · exact Nat.zero_le _
theorem deed_sub {k : Nat} {r : List Nat} {c : Nat} (h : c ∈ deed k r) : c ∈ r := by
  unfold deed at h
  repeat' split at h
  · exact nm_sub _ h
  · exact hd_sub _ h
  · exact en_sub _ _ h
  · exact rt_sub _ _ h
  · cases h
end
section
open PySem.Calls
abbrev sl (c : Nat) : Bool := c == 47
abbrev dt (c : Nat) : Bool := c == 46
/-- the text of a list of codes read from its end -/
def RS (r : List Nat) : Str := ⟨r.reverse.toArray⟩
theorem RS_len (r : List Nat) : (RS r).length = r.length := by simp [RS, Str.length]
theorem RS_list (r : List Nat) : (RS r).cps.toList = r.reverse := rfl
theorem RS_inj {a b : List Nat} (h : RS a = RS b) : a = b := by
  have e := congrArg (fun x : Str => x.cps.toList) h
  exact List.reverse_inj.mp e
/-- the last place of a code -/
def lastAt {α : Type} (p : α → Bool) (r : List α) : Int := (r.length : Int) - 1 - ((r.takeWhile fun c => !p c).length : Int)
theorem lastAt_none {α : Type} {p : α → Bool} {r : List α} (h : ∀ c ∈ r, p c = false) : lastAt p r = -1 := by
  unfold lastAt
  rw [tw_all (p := fun c => !p c) (l := r) fun c hc => by simp [h c hc]]
  omega
theorem lastAt_some {α : Type} {p : α → Bool} {r : List α} {i : Nat} {c : α} (hi : r.reverse[i]? = some c) (hc : p c = true) (hn : ∀ k, i < k → ∀ d, r.reverse[k]? = some d → p d = false) : lastAt p r = (i : Int) := by
  have hlt : i < r.reverse.length := by
    rcases Nat.lt_or_ge i r.reverse.length with h | h
    · exact h
    · rw [List.getElem?_eq_none h] at hi; cases hi
  have e : r.reverse = r.reverse.take i ++ c :: r.reverse.drop (i + 1) := by
    have h1 := (List.take_append_drop i r.reverse).symm
    rw [List.drop_eq_getElem_cons hlt] at h1
    have h2 : r.reverse[i] = c := by rw [List.getElem?_eq_getElem hlt] at hi; exact Option.some.inj hi
    rw [h2] at h1
    exact h1
  have e2 : r = (r.reverse.drop (i + 1)).reverse ++ c :: (r.reverse.take i).reverse := by
    have h1 := congrArg List.reverse e
    rw [List.reverse_reverse, List.reverse_append, List.reverse_cons, List.append_assoc] at h1
    exact h1
  have h3 : ∀ d ∈ (r.reverse.drop (i + 1)).reverse, (!p d) = true := fun d hd => by
    rw [List.mem_reverse] at hd
    obtain ⟨k, hk⟩ := List.getElem?_of_mem hd
    rw [List.getElem?_drop] at hk
    simp [hn (i + 1 + k) (by omega) d hk]
  unfold lastAt
  have e3 : r.takeWhile (fun c => !p c) = (r.reverse.drop (i + 1)).reverse := by
    conv => lhs; arg 2; rw [e2]
    exact tw_app (p := fun c => !p c) (by rw [List.takeWhile_cons_of_neg (by simp [hc])]) h3
  rw [e3, List.length_reverse, List.length_drop, List.length_reverse]
  rw [List.length_reverse] at hlt
  omega
theorem rfindS (r : List Nat) (c : Nat) : Txt.rfind (RS r) ⟨#[c]⟩ = lastAt (· == c) r := by
  unfold Txt.rfind
  rcases StrLaws.last_spec (RS r) ⟨#[c]⟩ with ⟨h0, hn⟩ | ⟨i, h0, hi, hn⟩
  · rw [h0]
    refine (lastAt_none fun d hd => ?_).symm
    rcases Bool.eq_false_or_eq_true (d == c) with h | h
    · have hd' : d ∈ r.reverse := List.mem_reverse.mpr hd
      obtain ⟨k, hk⟩ := List.getElem?_of_mem hd'
      rw [beq_iff_eq.mp h] at hk
      exact absurd ((StrLaws.subAt_one (RS r) c k).mpr hk) (hn k)
    · exact h
  · rw [h0]
    refine (lastAt_some (p := (· == c)) ((StrLaws.subAt_one (RS r) c i).mp hi) (beq_self_eq_true c) fun k hk d hd => ?_).symm
    rcases Bool.eq_false_or_eq_true (d == c) with h | h
    · rw [beq_iff_eq.mp h] at hd
      exact absurd ((StrLaws.subAt_one (RS r) c k).mpr hd) (hn k hk)
    · exact h
theorem slash_eq : Str.ofString "/" = ⟨#[47]⟩ := by decide +kernel
theorem dot_eq : Str.ofString "." = ⟨#[46]⟩ := by decide +kernel
theorem tw_len_le {p : Nat → Bool} (r : List Nat) : (r.takeWhile p).length ≤ r.length := (List.takeWhile_sublist _).length_le
theorem take_tw {p : Nat → Bool} (r : List Nat) : r.take (r.takeWhile p).length = r.takeWhile p := by
  have e : r = r.takeWhile p ++ r.dropWhile p := (List.takeWhile_append_dropWhile (p := p) (l := r)).symm
  conv => lhs; arg 2; rw [e]
  rw [List.take_left]
theorem drop_tw {p : Nat → Bool} (r : List Nat) : r.drop (r.takeWhile p).length = r.dropWhile p := by
  have e : r = r.takeWhile p ++ r.dropWhile p := (List.takeWhile_append_dropWhile (p := p) (l := r)).symm
  conv => lhs; arg 2; rw [e]
  rw [List.drop_left]
/-- a text from a place -/
theorem fromS {r : List Nat} {i : Int} (h0 : 0 ≤ i) (h1 : i ≤ r.length) : Txt.slice (RS r) (some i) none = RS (r.take (r.length - i.toNat)) := by
  rw [slice_from_eq h0 (by rw [RS_len]; exact h1) rfl, RS_len, RS_list]
  unfold RS
  rw [List.take_of_length_le (by rw [List.length_drop, List.length_reverse]; omega), List.drop_reverse]
/-- a text to a place -/
theorem toS {r : List Nat} {j : Int} (h0 : 0 ≤ j) (h1 : j ≤ r.length) : Txt.slice (RS r) none (some j) = RS (r.drop (r.length - j.toNat)) := by
  rw [beq_iff_eq.mp (slice_closes_toL h0 (by rw [RS_len]; exact h1)), RS_list]
  unfold RS
  rw [show (0 : Int).toNat = 0 from rfl, List.drop_zero, Int.sub_zero, List.take_reverse]
/-- a part of a text -/
theorem partS {r : List Nat} {i j : Int} (h0 : 0 ≤ i) (h1 : i ≤ j) (h2 : j ≤ r.length) : Txt.slice (RS r) (some i) (some j) = RS ((r.take (r.length - i.toNat)).drop (r.length - j.toNat)) := by
  rw [beq_iff_eq.mp (slice_closesL h0 h1 (by rw [RS_len]; exact h2)), RS_list]
  unfold RS
  rw [List.drop_reverse, List.take_reverse, List.length_take]
  rw [show min (r.length - i.toNat) r.length - (j - i).toNat = r.length - j.toNat from by omega]
theorem lastAt_ge {p : Nat → Bool} (r : List Nat) : -1 ≤ lastAt p r := by
  have := tw_len_le (p := fun c => !p c) r
  unfold lastAt
  omega
theorem lastAt_lt {p : Nat → Bool} (r : List Nat) : lastAt p r < r.length := by
  unfold lastAt
  omega
theorem fromLast {p : Nat → Bool} (r : List Nat) : r.length - (lastAt p r + 1).toNat = (r.takeWhile fun c => !p c).length := by
  have := tw_len_le (p := fun c => !p c) r
  unfold lastAt
  omega
theorem baseS (r : List Nat) : Txt.slice (RS r) (some (Txt.rfind (RS r) (Str.ofString "/") + 1)) none = RS (nm sl r) := by
  have h1 := lastAt_ge (p := fun x => x == 47) r
  have h2 := lastAt_lt (p := fun x => x == 47) r
  rw [slash_eq, rfindS, fromS (by omega) (by omega), fromLast, take_tw]
  rfl
theorem headS (r : List Nat) : Txt.slice (RS r) none (some (Txt.rfind (RS r) (Str.ofString "/") + 1)) = RS (r.dropWhile fun c => !sl c) := by
  have h1 := lastAt_ge (p := fun x => x == 47) r
  have h2 := lastAt_lt (p := fun x => x == 47) r
  rw [slash_eq, rfindS, toS (by omega) (by omega), fromLast, drop_tw]
theorem rstripS (q : List Nat) : Txt.rstripChars (RS q) (Str.ofString "/") = RS (q.dropWhile sl) := by
  have e0 : (Str.ofString "/").cps.contains = sl := by
    rw [slash_eq]
    funext c
    simp [sl]
    rfl
  unfold Txt.rstripChars
  rw [e0]
  have e1 : stripHi sl true (RS q) (stripLo sl false (RS q)) = q.length - (q.takeWhile sl).length := by
    unfold stripHi stripLo
    simp only [if_true, Bool.false_eq_true, if_false, RS_len, RS_list, List.drop_zero, List.reverse_reverse]
  have hle := tw_len_le (p := sl) q
  have e2 : PySem.stripped sl false true (RS q) = RS (q.dropWhile sl) := by
    unfold PySem.stripped
    rw [e1]
    have e3 : stripLo sl false (RS q) = 0 := rfl
    rw [e3]
    unfold PySem.Builtin.Str.strSub RS
    congr 1
    rw [List.extract_toArray, List.extract_eq_take_drop]
    simp only [Nat.sub_zero, List.drop_zero]
    rw [List.take_reverse]
    congr 2
    rw [← drop_tw]
    congr 1
    omega
  unfold Txt.stripBy
  split
  · rename_i h
    unfold stripSame at h
    rw [e1, RS_len] at h
    have h3 : (q.length - (q.takeWhile sl).length == q.length) = true := (Bool.and_eq_true_iff.mp h).2
    have h4 := beq_iff_eq.mp h3
    have h5 : (q.takeWhile sl).length = 0 ∨ q.length = 0 := by omega
    have h6 : (q.takeWhile sl).length = 0 := by omega
    rw [← drop_tw, h6]
    rfl
  · exact e2
theorem mulS (n : Nat) : Txt.mul (Str.ofString "/") (n : Int) = RS (List.replicate n 47) := by
  have h := mul_one_list 47 (n : Int)
  rw [slash_eq]
  have e : Txt.mul ⟨#[47]⟩ (n : Int) = ⟨(List.replicate n 47).toArray⟩ := by
    generalize Txt.mul ⟨#[47]⟩ (n : Int) = z at h ⊢
    obtain ⟨c⟩ := z
    have h' : c.toList = List.replicate n 47 := by simpa using h
    rw [← h', Array.toArray_toList]
  rw [e]
  unfold RS
  rw [List.reverse_replicate]
theorem dw_nil {p : Nat → Bool} : ∀ {q : List Nat}, q.dropWhile p = [] → ∀ c ∈ q, p c = true
  | [], _, _, h => nomatch h
  | x :: q, h, c, hc => by
    cases hx : p x with
    | false => rw [List.dropWhile_cons_of_neg (by simp [hx])] at h; cases h
    | true =>
      rw [List.dropWhile_cons_of_pos hx] at h
      cases hc with
      | head => exact hx
      | tail _ hc => exact dw_nil h c hc
theorem all_slash {q : List Nat} : q.dropWhile sl = [] ↔ q = List.replicate q.length 47 := by
  constructor
  · intro h
    exact List.eq_replicate_iff.mpr ⟨rfl, fun c hc => beq_iff_eq.mp (dw_nil h c hc)⟩
  · intro h
    refine dw_all fun c hc => ?_
    rw [h] at hc
    rw [List.eq_of_mem_replicate hc]
    rfl
theorem dirA {r : List Nat} (h : (Txt.slice (RS r) none (some (Txt.rfind (RS r) (Str.ofString "/") + 1)) != Txt.mul (Str.ofString "/") (Txt.slice (RS r) none (some (Txt.rfind (RS r) (Str.ofString "/") + 1))).length) = true) :
    Txt.rstripChars (Txt.slice (RS r) none (some (Txt.rfind (RS r) (Str.ofString "/") + 1))) (Str.ofString "/") = RS (hdr sl r) := by
  rw [headS] at h ⊢
  rw [RS_len, mulS] at h
  rw [rstripS]
  unfold hdr
  dsimp only
  rw [if_neg]
  intro e
  rw [← all_slash.mp e] at h
  simp at h
theorem dirB {r : List Nat} (h : (Txt.slice (RS r) none (some (Txt.rfind (RS r) (Str.ofString "/") + 1)) != Txt.mul (Str.ofString "/") (Txt.slice (RS r) none (some (Txt.rfind (RS r) (Str.ofString "/") + 1))).length) = false) :
    Txt.slice (RS r) none (some (Txt.rfind (RS r) (Str.ofString "/") + 1)) = RS (hdr sl r) := by
  rw [headS] at h ⊢
  rw [RS_len, mulS] at h
  unfold hdr
  dsimp only
  rw [if_pos]
  refine all_slash.mpr (RS_inj ?_)
  simpa using h
theorem dirC {r : List Nat} (h : ((Txt.slice (RS r) none (some (Txt.rfind (RS r) (Str.ofString "/") + 1))).length : Int) = 0) :
    Txt.slice (RS r) none (some (Txt.rfind (RS r) (Str.ofString "/") + 1)) = RS (hdr sl r) := by
  rw [headS] at h ⊢
  rw [RS_len] at h
  have e : (r.dropWhile fun c => !sl c) = [] := List.eq_nil_of_length_eq_zero (by omega)
  unfold hdr
  dsimp only
  rw [e]
  rfl
/-- all signs from a to b are dots -/
def Dots (r : List Nat) (a b : Int) : Prop := ∀ i : Nat, a ≤ i → (i : Int) < b → r.reverse[i]? = some 46
theorem dots_start (r : List Nat) (a : Int) : Dots r a a := fun _ h1 h2 => by omega
theorem oneS {r : List Nat} {i : Int} (h0 : 0 ≤ i) (h1 : i < r.length) : ∃ c, r.reverse[i.toNat]? = some c ∧ Txt.slice (RS r) (some i) (some (i + 1)) = ⟨#[c]⟩ := by
  have hlt : i.toNat < r.reverse.length := by rw [List.length_reverse]; omega
  refine ⟨r.reverse[i.toNat], List.getElem?_eq_getElem hlt, ?_⟩
  rw [beq_iff_eq.mp (slice_closesL h0 (by omega) (by rw [RS_len]; omega)), RS_list]
  congr 1
  rw [List.drop_eq_getElem_cons hlt, show (i + 1 - i).toNat = 1 from by omega]
  rfl
theorem dots_step {r : List Nat} {a b : Int} (h : Dots r a b) (ha : 0 ≤ a) (hab : a ≤ b) (hb : b < r.length) (he : (Txt.slice (RS r) (some b) (some (b + 1)) != Str.ofString ".") = false) : Dots r a (b + 1) := by
  obtain ⟨c, h1, h2⟩ := oneS (r := r) (i := b) (by omega) hb
  rw [h2, dot_eq] at he
  have h3 : (⟨#[c]⟩ : Str) = ⟨#[46]⟩ := bne_eq_false_iff_eq.mp he
  have h4 : c = 46 := by injection h3 with h3; simpa using h3
  intro i hi1 hi2
  by_cases e : (i : Int) = b
  · rw [show i = b.toNat from by omega, h1, h4]
  · exact h i hi1 (by omega)
theorem dec {r : List Nat} (h : lastAt sl r < lastAt dt r) : ∃ u v, r = u ++ 46 :: v ∧ (∀ c ∈ u, (!dt c) = true) ∧ lastAt dt r = v.length ∧ lastAt sl r = v.length - 1 - (nm sl v).length ∧ nm sl r = u ++ 46 :: nm sl v := by
  have e := (List.takeWhile_append_dropWhile (p := fun c => !dt c) (l := r)).symm
  have hle := tw_len_le (p := fun c => !sl c) r
  cases hv : r.dropWhile fun c => !dt c with
  | nil =>
    rw [hv, List.append_nil] at e
    have : lastAt dt r = -1 := by
      unfold lastAt
      rw [← e]
      omega
    have := lastAt_ge (p := sl) r
    omega
  | cons d v =>
    have hd : d = 46 := by
      have := dw_head (p := fun c => !dt c) hv
      simpa using this
    subst hd
    rw [hv] at e
    have hl : lastAt dt r = v.length := by
      unfold lastAt
      conv => lhs; arg 1; arg 1; rw [e]
      rw [List.length_append, List.length_cons]
      omega
    have hu : ∀ c ∈ r.takeWhile (fun c => !dt c), (!dt c) = true := fun c hc => tw_mem (p := fun c => !dt c) hc
    have hlt : (r.takeWhile fun c => !dt c).length < (nm sl r).length := by
      unfold lastAt at h
      unfold nm
      omega
    have hns : ∀ c ∈ r.takeWhile (fun c => !dt c), (!sl c) = true := fun c hc => by
      rw [← take_tw (p := fun c => !dt c)] at hc
      refine nm_no sl (r := r) ?_
      have e2 : nm sl r = r.take (nm sl r).length := (take_tw (p := fun c => !sl c) r).symm
      rw [e2]
      have e3 : r.take (r.takeWhile fun c => !dt c).length = (r.take (nm sl r).length).take (r.takeWhile fun c => !dt c).length := by
        rw [List.take_take, Nat.min_eq_left (Nat.le_of_lt hlt)]
      rw [e3] at hc
      exact List.mem_of_mem_take hc
    have hn : nm sl r = (r.takeWhile fun c => !dt c) ++ 46 :: nm sl v := by
      conv => lhs; rw [e]
      unfold nm
      rw [List.takeWhile_append_of_pos hns, List.takeWhile_cons_of_pos rfl]
    refine ⟨_, v, e, hu, hl, ?_, hn⟩
    have hz : lastAt sl r = (r.length : Int) - 1 - (nm sl r).length := rfl
    rw [hz, hn]
    have hz2 : r.length = (r.takeWhile fun c => !dt c).length + (v.length + 1) := by
      conv => lhs; rw [e]
      rw [List.length_append, List.length_cons]
    rw [List.length_append, List.length_cons]
    omega
theorem xt_dec {u v : List Nat} (hu : ∀ c ∈ u, (!dt c) = true) : xt dt (u ++ 46 :: v) = if v.all dt = true then [] else u ++ [46] := by
  unfold xt
  rw [dw_app hu, List.dropWhile_cons_of_neg (by decide), tw_app (by rw [List.takeWhile_cons_of_neg (by decide)]) hu]
/-- the ending's place, where there is one -/
theorem xt_at {r : List Nat} {i : Nat} (hs : lastAt sl r < i) (hi : (i : Int) < lastAt dt r) {c : Nat} (hc : r.reverse[i]? = some c) (hne : c ≠ 46) : en sl dt r = r.take (r.length - (lastAt dt r).toNat) ∧ rt sl dt r = r.drop (r.length - (lastAt dt r).toNat) := by
  obtain ⟨u, v, e, hu, h1, h2, h3⟩ := dec (Int.lt_trans hs hi)
  have hle := nm_len sl v
  have hlen : r.length = u.length + (v.length + 1) := by rw [e, List.length_append, List.length_cons]
  have hk : r.length - (lastAt dt r).toNat = (u ++ [46]).length := by
    rw [h1, List.length_append, List.length_singleton]
    omega
  have e2 : r = (u ++ [46]) ++ v := by rw [e]; simp
  have hen : en sl dt r = u ++ [46] := by
    show xt dt (nm sl r) = _
    rw [h3, xt_dec hu, if_neg]
    intro hall
    have hj : r.reverse[i]? = v.reverse[i]? := by
      rw [e, List.reverse_append, List.reverse_cons, List.append_assoc, List.getElem?_append_left (by rw [List.length_reverse]; omega)]
    rw [hj, List.getElem?_reverse (by omega)] at hc
    have hm : c ∈ nm sl v := by
      have e4 : nm sl v = v.take (nm sl v).length := (take_tw (p := fun c => !sl c) v).symm
      rw [e4]
      have hlt : v.length - 1 - i < (nm sl v).length := by omega
      rw [← List.getElem?_take_of_lt hlt] at hc
      exact List.mem_of_getElem? hc
    exact hne (beq_iff_eq.mp (List.all_eq_true.mp hall c hm))
  refine ⟨?_, ?_⟩
  · rw [hen, hk]
    conv => rhs; arg 2; rw [e2]
    rw [List.take_left]
  · unfold rt
    rw [hen, hk]
theorem xt_no {r : List Nat} (h : Dots r (lastAt sl r + 1) (lastAt dt r)) : en sl dt r = [] ∧ rt sl dt r = r := by
  have key : en sl dt r = [] := by
    show xt dt (nm sl r) = []
    by_cases hlt : lastAt sl r < lastAt dt r
    · obtain ⟨u, v, e, hu, h1, h2, h3⟩ := dec hlt
      have hle := nm_len sl v
      rw [h3, xt_dec hu, if_pos]
      refine List.all_eq_true.mpr fun c hc => ?_
      obtain ⟨j, hj⟩ := List.getElem?_of_mem hc
      have hjl : j < (nm sl v).length := by
        rcases Nat.lt_or_ge j (nm sl v).length with h | h
        · exact h
        · rw [List.getElem?_eq_none h] at hj; cases hj
      have e4 : nm sl v = v.take (nm sl v).length := (take_tw (p := fun c => !sl c) v).symm
      rw [e4, List.getElem?_take_of_lt hjl] at hj
      have h5 := h (v.length - 1 - j) (by omega) (by omega)
      rw [e, List.reverse_append, List.reverse_cons, List.append_assoc, List.getElem?_append_left (by rw [List.length_reverse]; omega), List.getElem?_reverse (by omega)] at h5
      rw [show v.length - 1 - (v.length - 1 - j) = j from by omega, hj] at h5
      rw [Option.some.inj h5]
      rfl
    · unfold xt
      have hle : (nm sl r).length ≤ (r.takeWhile fun c => !dt c).length := by
        unfold lastAt at hlt
        unfold nm
        omega
      have hall : ∀ c ∈ nm sl r, (!dt c) = true := fun c hc => by
        have e2 : nm sl r = r.take (nm sl r).length := (take_tw (p := fun c => !sl c) r).symm
        rw [e2] at hc
        refine tw_mem (p := fun c => !dt c) (l := r) ?_
        rw [← take_tw (p := fun c => !dt c)]
        have e3 : r.take (nm sl r).length = (r.take (r.takeWhile fun c => !dt c).length).take (nm sl r).length := by
          rw [List.take_take, Nat.min_eq_left hle]
        rw [e3] at hc
        exact List.mem_of_mem_take hc
      rw [dw_all hall]
  refine ⟨key, ?_⟩
  unfold rt
  rw [key]
  rfl
/-- the loop left early: at a sign that is no dot -/
theorem extS {r : List Nat} {fi : Int} (h1 : Txt.rfind (RS r) (Str.ofString "/") + 1 ≤ fi) (h2 : fi < Txt.rfind (RS r) (Str.ofString ".")) (h : (Txt.slice (RS r) (some fi) (some (fi + 1)) != Str.ofString ".") = true) :
    Txt.slice (RS r) none (some (Txt.rfind (RS r) (Str.ofString "."))) = RS (rt sl dt r) ∧ Txt.slice (RS r) (some (Txt.rfind (RS r) (Str.ofString "."))) none = RS (en sl dt r) := by
  rw [slash_eq, rfindS] at h1
  rw [dot_eq] at h ⊢
  rw [dot_eq, rfindS] at h2
  rw [rfindS]
  have h3 := lastAt_ge (p := fun x => x == 47) r
  have h4 := lastAt_lt (p := fun x => x == 46) r
  obtain ⟨c, hc, he⟩ := oneS (r := r) (i := fi) (by omega) (by omega)
  rw [he] at h
  have hne : c ≠ 46 := by
    intro e
    rw [e] at h
    simp at h
  obtain ⟨e1, e2⟩ := xt_at (r := r) (i := fi.toNat) (by show lastAt (fun x => x == 47) r < _; omega) (by show _ < lastAt (fun x => x == 46) r; omega) hc hne
  rw [toS (by omega) (by omega), fromS (by omega) (by omega), e1, e2]
  exact ⟨rfl, rfl⟩
theorem noS {r : List Nat} (h : Dots r (Txt.rfind (RS r) (Str.ofString "/") + 1) (Txt.rfind (RS r) (Str.ofString "."))) : RS r = RS (rt sl dt r) ∧ Txt.slice (RS r) none (some 0) = RS (en sl dt r) := by
  rw [slash_eq, dot_eq, rfindS, rfindS] at h
  obtain ⟨e1, e2⟩ := xt_no h
  rw [e1, e2, toS (by omega) (by omega)]
  refine ⟨rfl, ?_⟩
  rw [show r.length - (0 : Int).toNat = r.length from rfl, List.drop_length]
theorem noS' {r : List Nat} (h : Txt.rfind (RS r) (Str.ofString ".") ≤ Txt.rfind (RS r) (Str.ofString "/")) : RS r = RS (rt sl dt r) ∧ Txt.slice (RS r) none (some 0) = RS (en sl dt r) :=
  noS fun _ h1 h2 => by omega
theorem dots_turn {r : List Nat} {s d fi : Int} (h1 : s + 1 ≤ fi) (h : Dots r (s + 1) fi) (hs : -1 ≤ s) (hd : d < r.length) (hlt : fi < d) (he : (Txt.slice (RS r) (some fi) (some (fi + 1)) != Str.ofString ".") = false) : s + 1 ≤ fi + 1 ∧ fi + 1 ≤ d ∧ Dots r (s + 1) (fi + 1) :=
  ⟨by omega, by omega, dots_step h (by omega) h1 (by omega) he⟩
/-- the loop came to its end -/
theorem noS2 {r : List Nat} {fi : Int} (h1 : fi ≤ Txt.rfind (RS r) (Str.ofString ".")) (h2 : ¬ fi < Txt.rfind (RS r) (Str.ofString ".")) (h : Dots r (Txt.rfind (RS r) (Str.ofString "/") + 1) fi) : RS r = RS (rt sl dt r) ∧ Txt.slice (RS r) none (some 0) = RS (en sl dt r) :=
  noS (by rw [show Txt.rfind (RS r) (Str.ofString ".") = fi from by omega]; exact h)
theorem one_eq {k c : Nat} : ((⟨#[k]⟩ : Str) == ⟨#[c]⟩) = (k == c) := by
  rw [Bool.eq_iff_iff, beq_iff_eq, beq_iff_eq]
  constructor
  · intro h
    injection h with h
    simpa using h
  · intro h
    rw [h]
theorem B_eq : Str.ofString "B" = ⟨#[66]⟩ := by decide +kernel
theorem D_eq : Str.ofString "D" = ⟨#[68]⟩ := by decide +kernel
theorem E_eq : Str.ofString "E" = ⟨#[69]⟩ := by decide +kernel
theorem S_eq : Str.ofString "S" = ⟨#[83]⟩ := by decide +kernel
theorem Z_eq : Str.ofString "Z" = ⟨#[90]⟩ := by decide +kernel
theorem deedB {k : Nat} {r : List Nat} (h : ((⟨#[k]⟩ : Str) == Str.ofString "B") = true) : nm sl r = deed k r := by
  rw [B_eq, one_eq, beq_iff_eq] at h
  subst h
  rfl
theorem deedD {k : Nat} {r : List Nat} (h : ((⟨#[k]⟩ : Str) == Str.ofString "D") = true) : hdr sl r = deed k r := by
  rw [D_eq, one_eq, beq_iff_eq] at h
  subst h
  rfl
theorem deedE {k : Nat} {r : List Nat} (h : ((⟨#[k]⟩ : Str) == Str.ofString "E") = true) : en sl dt r = deed k r := by
  rw [E_eq, one_eq, beq_iff_eq] at h
  subst h
  rfl
theorem deedS {k : Nat} {r : List Nat} (hk : k = 66 ∨ k = 68 ∨ k = 69 ∨ k = 83) (h1 : ((⟨#[k]⟩ : Str) == Str.ofString "B") = false) (h2 : ((⟨#[k]⟩ : Str) == Str.ofString "D") = false) (h3 : ((⟨#[k]⟩ : Str) == Str.ofString "E") = false) : rt sl dt r = deed k r := by
  rw [B_eq, one_eq, beq_eq_false_iff_ne] at h1
  rw [D_eq, one_eq, beq_eq_false_iff_ne] at h2
  rw [E_eq, one_eq, beq_eq_false_iff_ne] at h3
  have : k = 83 := by omega
  subst this
  rfl
end
section
open PySem.Calls
/-- the bytes of a list of codes read from its end -/
def RY (r : List Nat) : Array UInt8 := (r.reverse.map Nat.toUInt8).toArray
theorem RY_size (r : List Nat) : (RY r).size = r.length := by simp [RY]
theorem RY_list (r : List Nat) : (RY r).toList = (r.map Nat.toUInt8).reverse := by simp [RY]
abbrev Oct (r : List Nat) : Prop := ∀ c ∈ r, c < 256
theorem u8_inj {a b : Nat} (ha : a < 256) (hb : b < 256) (h : a.toUInt8 = b.toUInt8) : a = b := by
  have e := congrArg UInt8.toNat h
  simp only [Nat.toUInt8, UInt8.toNat_ofNat'] at e
  omega
theorem RY_inj {a b : List Nat} (ha : Oct a) (hb : Oct b) (h : RY a = RY b) : a = b := by
  have e := congrArg (fun x : Array UInt8 => x.toList) h
  simp only [RY_list] at e
  have e2 := List.reverse_inj.mp e
  have key : ∀ {a b : List Nat}, Oct a → Oct b → a.map Nat.toUInt8 = b.map Nat.toUInt8 → a = b := by
    intro a
    induction a with
    | nil => intro b _ _ h; cases b with
      | nil => rfl
      | cons _ _ => cases h
    | cons x a ih =>
      intro b h1 h2 h
      cases b with
      | nil => cases h
      | cons y b =>
        rw [List.map_cons, List.map_cons] at h
        injection h with h3 h4
        rw [u8_inj (h1 x (.head _)) (h2 y (.head _)) h3, ih (fun c hc => h1 c (.tail _ hc)) (fun c hc => h2 c (.tail _ hc)) h4]
  exact key ha hb e2
theorem tw_congr {p q : Nat → Bool} : ∀ {r : List Nat}, (∀ c ∈ r, p c = q c) → r.takeWhile p = r.takeWhile q
  | [], _ => rfl
  | x :: r, h => by
    have hx := h x (.head _)
    have ih := tw_congr fun c hc => h c (.tail _ hc)
    simp only [List.takeWhile_cons, hx, ih]
theorem dw_congr {p q : Nat → Bool} : ∀ {r : List Nat}, (∀ c ∈ r, p c = q c) → r.dropWhile p = r.dropWhile q
  | [], _ => rfl
  | x :: r, h => by
    have hx := h x (.head _)
    have ih := dw_congr fun c hc => h c (.tail _ hc)
    simp only [List.dropWhile_cons, hx, ih]
theorem u8_eq {r : List Nat} (h : Oct r) {k : Nat} (hk : k < 256) : ∀ c ∈ r, (c.toUInt8 == k.toUInt8) = (c == k) := fun c hc => by
  rw [Bool.eq_iff_iff, beq_iff_eq, beq_iff_eq]
  exact ⟨fun e => u8_inj (h c hc) hk e, fun e => by rw [e]⟩
theorem find_last (f : Nat → Bool) : ∀ n : Nat, (((List.range n).reverse.find? f = none) ∧ ∀ k, k < n → f k = false) ∨ ∃ i, (List.range n).reverse.find? f = some i ∧ i < n ∧ f i = true ∧ ∀ k, i < k → k < n → f k = false
  | 0 => .inl ⟨rfl, fun _ h => absurd h (Nat.not_lt_zero _)⟩
  | n + 1 => by
    rw [List.range_succ, List.reverse_append, List.reverse_singleton, List.singleton_append, List.find?_cons]
    cases hf : f n with
    | true => exact .inr ⟨n, rfl, Nat.lt_succ_self n, hf, fun k h1 h2 => by omega⟩
    | false =>
      rcases find_last f n with ⟨h1, h2⟩ | ⟨i, h1, h2, h3, h4⟩
      · refine .inl ⟨h1, fun k hk => ?_⟩
        rcases Nat.lt_or_ge k n with h | h
        · exact h2 k h
        · rw [show k = n from by omega]; exact hf
      · refine .inr ⟨i, h1, by omega, h3, fun k hk hk2 => ?_⟩
        rcases Nat.lt_or_ge k n with h | h
        · exact h4 k hk h
        · rw [show k = n from by omega]; exact hf
theorem ext_one (b : Array UInt8) (c : UInt8) (i : Nat) : (b.extract i (i + 1) == #[c]) = true ↔ b.toList[i]? = some c := by
  rw [beq_iff_eq, ← Array.toList_inj, Array.toList_extract, List.extract_eq_take_drop, Nat.add_sub_cancel_left]
  rcases Nat.lt_or_ge i b.toList.length with h | h
  · rw [List.drop_eq_getElem_cons h, List.getElem?_eq_getElem h]
    simp
  · rw [List.drop_eq_nil_of_le h, List.getElem?_eq_none h]
    simp
theorem brf_last (b : Array UInt8) (c : UInt8) : RB.brf b c = lastAt (· == c) b.toList.reverse := by
  unfold RB.brf Builtin.Bytes.rfind?
  have e1 : (List.range (b.size + 1 - (0 + (#[c] : Array UInt8).size))).map (· + 0) = List.range b.size := by simp
  rw [e1]
  have hz : b.size = b.toList.length := by simp
  rcases find_last (fun i => b.extract i (i + (#[c] : Array UInt8).size) == #[c]) b.size with ⟨h1, h2⟩ | ⟨i, h1, h2, h3, h4⟩
  · rw [h1]
    refine (lastAt_none fun d hd => ?_).symm
    rcases Bool.eq_false_or_eq_true (d == c) with h | h
    · rw [List.mem_reverse] at hd
      obtain ⟨k, hk⟩ := List.getElem?_of_mem hd
      rw [beq_iff_eq.mp h] at hk
      have hlt : k < b.toList.length := by
        rcases Nat.lt_or_ge k b.toList.length with h | h
        · exact h
        · rw [List.getElem?_eq_none h] at hk; cases hk
      have : (b.extract k (k + 1) == #[c]) = false := h2 k (by omega)
      rw [(ext_one b c k).mpr hk] at this
      cases this
    · exact h
  · rw [h1]
    refine (lastAt_some (p := (· == c)) (c := c) ?_ (beq_self_eq_true c) fun k hk d hd => ?_).symm
    · rw [List.reverse_reverse]
      exact (ext_one b c i).mp h3
    · rw [List.reverse_reverse] at hd
      rcases Bool.eq_false_or_eq_true (d == c) with h | h
      · rw [beq_iff_eq.mp h] at hd
        have hlt : k < b.toList.length := by
          rcases Nat.lt_or_ge k b.toList.length with h | h
          · exact h
          · rw [List.getElem?_eq_none h] at hd; cases hd
        have : (b.extract k (k + 1) == #[c]) = false := h4 k hk (by omega)
        rw [(ext_one b c k).mpr hd] at this
        cases this
      · exact h
theorem rfindY {r : List Nat} (h : Oct r) {k : Nat} (hk : k < 256) : RB.brf (RY r) k.toUInt8 = lastAt (· == k) r := by
  rw [brf_last, RY_list, List.reverse_reverse]
  unfold lastAt
  rw [List.length_map, List.takeWhile_map, List.length_map]
  have e : r.takeWhile ((fun c => !(c == k.toUInt8)) ∘ Nat.toUInt8) = r.takeWhile fun c => !(c == k) :=
    tw_congr fun c hc => by simp only [Function.comp_apply, u8_eq h hk c hc]
  rw [e]
/-- bytes from a place -/
theorem fromY {r : List Nat} {i : Int} (h0 : 0 ≤ i) (h1 : i ≤ r.length) : KBy.picked (RY r) (some i) none = RY (r.take (r.length - i.toNat)) := by
  rw [KBc.picked_eq, RY_size, RY_list]
  simp only [Option.elim, clipAt_in h0 h1]
  unfold RY
  rw [List.take_of_length_le (by rw [List.length_drop, List.length_reverse, List.length_map]; omega), List.drop_reverse, List.length_map, ← List.map_take, List.map_reverse]
theorem toY {r : List Nat} {j : Int} (h0 : 0 ≤ j) (h1 : j ≤ r.length) : KBy.picked (RY r) none (some j) = RY (r.drop (r.length - j.toNat)) := by
  rw [KBc.picked_eq, RY_size, RY_list]
  simp only [Option.elim, clipAt_in h0 h1]
  unfold RY
  rw [List.drop_zero, Nat.sub_zero, List.take_reverse, List.length_map, ← List.map_drop, List.map_reverse]
theorem partY {r : List Nat} {i j : Int} (h0 : 0 ≤ i) (h1 : i ≤ j) (h2 : j ≤ r.length) : KBy.picked (RY r) (some i) (some j) = RY ((r.take (r.length - i.toNat)).drop (r.length - j.toNat)) := by
  rw [KBc.picked_eq, RY_size, RY_list]
  simp only [Option.elim, clipAt_in h0 (Int.le_trans h1 h2), clipAt_in (Int.le_trans h0 h1) h2]
  unfold RY
  rw [List.drop_reverse, List.take_reverse, List.length_take, List.length_map]
  rw [show min (r.length - i.toNat) r.length - (j.toNat - i.toNat) = r.length - j.toNat from by omega]
  rw [← List.map_take, ← List.map_drop, List.map_reverse]
theorem slash8 : (47 : UInt8) = Nat.toUInt8 47 := rfl
theorem dot8 : (46 : UInt8) = Nat.toUInt8 46 := rfl
theorem baseY {r : List Nat} (h : Oct r) : KBy.picked (RY r) (some (RB.brf (RY r) 47 + 1)) none = RY (nm sl r) := by
  have h1 := lastAt_ge (p := fun x => x == 47) r
  have h2 := lastAt_lt (p := fun x => x == 47) r
  rw [slash8, rfindY h (by omega), fromY (by omega) (by omega), fromLast, take_tw]
  rfl
theorem headY {r : List Nat} (h : Oct r) : KBy.picked (RY r) none (some (RB.brf (RY r) 47 + 1)) = RY (r.dropWhile fun c => !sl c) := by
  have h1 := lastAt_ge (p := fun x => x == 47) r
  have h2 := lastAt_lt (p := fun x => x == 47) r
  rw [slash8, rfindY h (by omega), toY (by omega) (by omega), fromLast, drop_tw]
theorem Oct_dw {r : List Nat} (h : Oct r) (p : Nat → Bool) : Oct (r.dropWhile p) := fun c hc => h c ((List.dropWhile_sublist p).subset hc)
theorem rstripY {q : List Nat} (h : Oct q) : RB.brs (RY q) 47 = RY (q.dropWhile sl) := by
  unfold RB.brs
  rw [RY_list, List.reverse_reverse, List.dropWhile_map]
  have e : q.dropWhile (#[(47 : UInt8)].contains ∘ Nat.toUInt8) = q.dropWhile sl := dw_congr fun c hc => by
    have := u8_eq h (k := 47) (by omega) c hc
    rw [← slash8] at this
    simp only [Function.comp_apply, sl, ← this]
    simp
    rfl
  rw [e]
  unfold RY
  rw [List.map_reverse]
theorem repY (n : Nat) : (List.replicate n [(47 : UInt8)]).flatten.toArray.toList = (RY (List.replicate n 47)).toList := by
  rw [RY_list, List.map_replicate, List.reverse_replicate, ← slash8]
  induction n with
  | zero => rfl
  | succ n ih => rw [List.replicate_succ, List.flatten_cons, List.replicate_succ, ← ih]; rfl
theorem dirAY {r : List Nat} (ho : Oct r) (h : ((KBy.picked (RY r) none (some (RB.brf (RY r) 47 + 1))).toList != (List.replicate ((KBy.picked (RY r) none (some (RB.brf (RY r) 47 + 1))).size : Int).toNat [(47 : UInt8)]).flatten.toArray.toList) = true) :
    RB.brs (KBy.picked (RY r) none (some (RB.brf (RY r) 47 + 1))) 47 = RY (hdr sl r) := by
  rw [headY ho] at h ⊢
  rw [RY_size, repY, Int.toNat_natCast] at h
  rw [rstripY (Oct_dw ho _)]
  unfold hdr
  dsimp only
  rw [if_neg]
  intro e
  rw [← all_slash.mp e] at h
  simp at h
theorem dirBY {r : List Nat} (ho : Oct r) (h : ((KBy.picked (RY r) none (some (RB.brf (RY r) 47 + 1))).toList != (List.replicate ((KBy.picked (RY r) none (some (RB.brf (RY r) 47 + 1))).size : Int).toNat [(47 : UInt8)]).flatten.toArray.toList) = false) :
    KBy.picked (RY r) none (some (RB.brf (RY r) 47 + 1)) = RY (hdr sl r) := by
  rw [headY ho] at h ⊢
  rw [RY_size, repY, Int.toNat_natCast] at h
  unfold hdr
  dsimp only
  rw [if_pos]
  refine all_slash.mpr (RY_inj (Oct_dw ho _) (fun c hc => by rw [List.eq_of_mem_replicate hc]; omega) ?_)
  have h2 : (RY (r.dropWhile fun c => !sl c)).toList = (RY (List.replicate (r.dropWhile fun c => !sl c).length 47)).toList := by
    exact bne_eq_false_iff_eq.mp h
  exact Array.toList_inj.mp h2
theorem dirCY {r : List Nat} (ho : Oct r) (h : ((KBy.picked (RY r) none (some (RB.brf (RY r) 47 + 1))).size : Int) = 0) :
    KBy.picked (RY r) none (some (RB.brf (RY r) 47 + 1)) = RY (hdr sl r) := by
  rw [headY ho] at h ⊢
  rw [RY_size] at h
  have e : (r.dropWhile fun c => !sl c) = [] := List.eq_nil_of_length_eq_zero (by omega)
  unfold hdr
  dsimp only
  rw [e]
  rfl
theorem oneY {r : List Nat} {i : Int} (h0 : 0 ≤ i) (h1 : i < r.length) : ∃ c, r.reverse[i.toNat]? = some c ∧ KBy.picked (RY r) (some i) (some (i + 1)) = #[c.toUInt8] := by
  have hlt : i.toNat < r.reverse.length := by rw [List.length_reverse]; omega
  refine ⟨r.reverse[i.toNat], List.getElem?_eq_getElem hlt, ?_⟩
  rw [partY h0 (by omega) (by omega)]
  unfold RY
  congr 1
  have e : ((r.take (r.length - i.toNat)).drop (r.length - (i + 1).toNat)).reverse = [r.reverse[i.toNat]] := by
    have e1 : (r.take (r.length - i.toNat)).reverse = r.reverse.drop i.toNat := List.drop_reverse.symm
    have e2 : ((r.take (r.length - i.toNat)).drop (r.length - (i + 1).toNat)).reverse = (r.take (r.length - i.toNat)).reverse.take 1 := by
      rw [List.take_reverse, List.length_take]
      congr 2
      omega
    rw [e2, e1, List.drop_eq_getElem_cons hlt]
    rfl
  rw [e]
  rfl
theorem dots_turnY {r : List Nat} (ho : Oct r) {s d fi : Int} (h1 : s + 1 ≤ fi) (h : Dots r (s + 1) fi) (hs : -1 ≤ s) (hd : d < r.length) (hlt : fi < d) (he : ((KBy.picked (RY r) (some fi) (some (fi + 1))).toList != [46]) = false) : s + 1 ≤ fi + 1 ∧ fi + 1 ≤ d ∧ Dots r (s + 1) (fi + 1) := by
  refine ⟨by omega, by omega, ?_⟩
  obtain ⟨c, h2, h3⟩ := oneY (r := r) (i := fi) (by omega) (by omega)
  rw [h3] at he
  have h4 : [c.toUInt8] = [46] := bne_eq_false_iff_eq.mp he
  have h5 : c.toUInt8 = Nat.toUInt8 46 := by injection h4
  have hc : c < 256 := ho c (List.mem_reverse.mp (List.mem_of_getElem? h2))
  have h6 : c = 46 := u8_inj hc (by omega) h5
  intro i hi1 hi2
  by_cases e : (i : Int) = fi
  · rw [show i = fi.toNat from by omega, h2, h6]
  · exact h i hi1 (by omega)
theorem extY {r : List Nat} (ho : Oct r) {fi : Int} (h1 : RB.brf (RY r) 47 + 1 ≤ fi) (h2 : fi < RB.brf (RY r) 46) (h : ((KBy.picked (RY r) (some fi) (some (fi + 1))).toList != [46]) = true) :
    KBy.picked (RY r) none (some (RB.brf (RY r) 46)) = RY (rt sl dt r) ∧ KBy.picked (RY r) (some (RB.brf (RY r) 46)) none = RY (en sl dt r) := by
  rw [slash8, rfindY ho (by omega)] at h1
  rw [dot8, rfindY ho (by omega)] at h2 ⊢
  have h3 := lastAt_ge (p := fun x => x == 47) r
  have h4 := lastAt_lt (p := fun x => x == 46) r
  obtain ⟨c, hc, he⟩ := oneY (r := r) (i := fi) (by omega) (by omega)
  rw [he] at h
  have hne : c ≠ 46 := by
    intro e
    rw [e] at h
    exact absurd h (by decide)
  obtain ⟨e1, e2⟩ := xt_at (r := r) (i := fi.toNat) (by show lastAt (fun x => x == 47) r < _; omega) (by show _ < lastAt (fun x => x == 46) r; omega) hc hne
  rw [toY (by omega) (by omega), fromY (by omega) (by omega), e1, e2]
  exact ⟨rfl, rfl⟩
theorem noY {r : List Nat} (ho : Oct r) (h : Dots r (RB.brf (RY r) 47 + 1) (RB.brf (RY r) 46)) : RY r = RY (rt sl dt r) ∧ KBy.picked (RY r) none (some 0) = RY (en sl dt r) := by
  rw [slash8, dot8, rfindY ho (by omega), rfindY ho (by omega)] at h
  obtain ⟨e1, e2⟩ := xt_no h
  rw [e1, e2, toY (by omega) (by omega)]
  refine ⟨rfl, ?_⟩
  rw [show r.length - (0 : Int).toNat = r.length from rfl, List.drop_length]
theorem noY' {r : List Nat} (ho : Oct r) (h : RB.brf (RY r) 46 ≤ RB.brf (RY r) 47) : RY r = RY (rt sl dt r) ∧ KBy.picked (RY r) none (some 0) = RY (en sl dt r) :=
  noY ho fun _ h1 h2 => by omega
theorem noY2 {r : List Nat} (ho : Oct r) {fi : Int} (h1 : fi ≤ RB.brf (RY r) 46) (h2 : ¬ fi < RB.brf (RY r) 46) (h : Dots r (RB.brf (RY r) 47 + 1) fi) : RY r = RY (rt sl dt r) ∧ KBy.picked (RY r) none (some 0) = RY (en sl dt r) :=
  noY ho (by rw [show RB.brf (RY r) 46 = fi from by omega]; exact h)
end
section
open PySem.Calls
local macro_rules | `(tactic| walk_at "call type:type") => `(tactic| (k_here; (with_reducible show wpAny _ _ (call (Value.type "type") [Value.bytes _ _]) _ _ _); refine call_type_of (Tx := "bytes") rfl (by decide +kernel) ?_))
local macro_rules | `(tactic| walk_at "call builtin:issubclass") => `(tactic| (k_here; k_dflt (first
  | (refine' issub_SN ?k1 ?k2 ?_; (case k1 => k_asm); (case k2 => k_mem); k_whole)
  | (refine' issub_BN ?k1 ?k2 ?_; (case k1 => k_asm); (case k2 => k_mem); k_whole))))
local macro_rules | `(tactic| walk_at "getMethod bytes") => `(tactic| with_reducible refine RB.m_rfind ?_)
local macro_rules | `(tactic| walk_at "getMethod bytes") => `(tactic| with_reducible refine RB.m_rstrip ?_)
local macro_rules | `(tactic| walk_at "call builtin:bytes.rfind") => `(tactic| refine RB.rfind ?_)
local macro_rules | `(tactic| walk_at "call builtin:bytes.rstrip") => `(tactic| (refine' RB.rstrip ?_ ?kz; (case kz => first | omega | (refine Nat.le_trans (KBc.size_picked_le _ _ _) ?_; omega)); k_whole; intro _ _))
local macro_rules | `(tactic| walk_at "subscriptTail") => `(tactic| (k_here; (with_reducible show wpAny _ _ (subscriptTail _ (Expr.Slice _ _ none _) (Value.bytes _ _) (Value.ref _)) _ _ _); (with_reducible rename Fr _ _ _ _ => F'); (with_reducible rename News _ _ _ _ => N'); (refine' RB.slice (s := ⟨_, _, _, _, _⟩) F' N' ?kl ?ku ?kz ?_; (case kl => constructor); (case ku => constructor); (case kz => first | omega | (refine Nat.le_trans (KBc.size_picked_le _ _ _) ?_; omega)); k_whole); intro _ _ _ _ _))
local macro_rules | `(tactic| walk_at "truthy bytes") => `(tactic| (k_here; (refine' truthy_bytes ?kz ?_; (case kz => first | omega | (refine Nat.le_trans (KBc.size_picked_le _ _ _) ?_; omega)); k_whole)))
local macro_rules | `(tactic| walk_at "call builtin:len") => `(tactic| (k_here; (with_reducible show wpAny _ _ (call (Value.builtin "len") [Value.bytes _ _]) _ _ _); (refine' RB.len ?kz ?_; (case kz => first | omega | (refine Nat.le_trans (KBc.size_picked_le _ _ _) ?_; omega)); k_whole; intro _)))
set_option maxRecDepth 100000 in
set_option maxHeartbeats 8000000 in
theorem c_fspathS {w mean mg mb} (x : Str) (t : Tok) : CtrV w mean mg mb 101 1 10 [.str x t] (fun R => R = fun t => .str x t) := by
  w_top off
  k_with_none
  unfold CtrV
  k_fill
  intro dp un gd cn cs a ccd cl outer A₀ base h₀ L m news s Q E B F X N T hk hd hu hret
  refine wpAny_call ?_
  k_dflt ktr_enter
  k_steps
  all_goals exact retE hret (by k_asm) (by refine' sub_of ?kN ?kS; (case kN => assumption); (case kS => kcj_all))
set_option maxRecDepth 100000 in
set_option maxHeartbeats 8000000 in
theorem c_fspathB {w mean mg mb} (x : Array UInt8) (t : Tok) : CtrV w mean mg mb 101 1 10 [.bytes x t] (fun R => R = fun t => .bytes x t) := by
  w_top off
  k_with_none
  unfold CtrV
  k_fill
  intro dp un gd cn cs a ccd cl outer A₀ base h₀ L m news s Q E B F X N T hk hd hu hret
  refine wpAny_call ?_
  k_dflt ktr_enter
  k_steps
  all_goals exact retE hret (by k_asm) (by refine' sub_of ?kN ?kS; (case kN => assumption); (case kS => kcj_all))
set_option maxRecDepth 100000 in
set_option maxHeartbeats 8000000 in
theorem c_get_sepS {w mean mg mb} (x : Str) (t : Tok) : CtrV w mean mg mb 115 1 10 [.str x t] (fun R => R = fun t => .str (Str.ofString "/") t) := by
  w_top off
  k_with_none
  unfold CtrV
  k_fill
  intro dp un gd cn cs a ccd cl outer A₀ base h₀ L m news s Q E B F X N T hk hd hu hret
  refine wpAny_call ?_
  k_dflt ktr_enter
  k_steps
  all_goals exact retE hret (by k_asm) (by k_asm)
set_option maxRecDepth 100000 in
set_option maxHeartbeats 8000000 in
theorem c_get_sepB {w mean mg mb} (x : Array UInt8) (t : Tok) : CtrV w mean mg mb 115 1 10 [.bytes x t] (fun R => R = fun t => .bytes #[47] t) := by
  w_top off
  k_with_none
  unfold CtrV
  k_fill
  intro dp un gd cn cs a ccd cl outer A₀ base h₀ L m news s Q E B F X N T hk hd hu hret
  refine wpAny_call ?_
  k_dflt ktr_enter
  k_steps
  all_goals exact retE hret (by k_asm) (by k_asm)
end
section
open PySem.Calls
local macro_rules | `(tactic| walk_at "call type:type") => `(tactic| (k_here; (with_reducible show wpAny _ _ (call (Value.type "type") [Value.bytes _ _]) _ _ _); refine call_type_of (Tx := "bytes") rfl (by decide +kernel) ?_))
local macro_rules | `(tactic| walk_at "call builtin:issubclass") => `(tactic| (k_here; k_dflt (first
  | (refine' issub_SN ?k1 ?k2 ?_; (case k1 => k_asm); (case k2 => k_mem); k_whole)
  | (refine' issub_BN ?k1 ?k2 ?_; (case k1 => k_asm); (case k2 => k_mem); k_whole))))
local macro_rules | `(tactic| walk_at "getMethod bytes") => `(tactic| with_reducible refine RB.m_rfind ?_)
local macro_rules | `(tactic| walk_at "getMethod bytes") => `(tactic| with_reducible refine RB.m_rstrip ?_)
local macro_rules | `(tactic| walk_at "call builtin:bytes.rfind") => `(tactic| refine RB.rfind ?_)
local macro_rules | `(tactic| walk_at "call builtin:bytes.rstrip") => `(tactic| (refine' RB.rstrip ?_ ?kz; (case kz => first | omega | (refine Nat.le_trans (KBc.size_picked_le _ _ _) ?_; omega)); k_whole; intro _ _))
local macro_rules | `(tactic| walk_at "subscriptTail") => `(tactic| (k_here; (with_reducible show wpAny _ _ (subscriptTail _ (Expr.Slice _ _ none _) (Value.bytes _ _) (Value.ref _)) _ _ _); (with_reducible rename Fr _ _ _ _ => F'); (with_reducible rename News _ _ _ _ => N'); (refine' RB.slice (s := ⟨_, _, _, _, _⟩) F' N' ?kl ?ku ?kz ?_; (case kl => constructor); (case ku => constructor); (case kz => first | omega | (refine Nat.le_trans (KBc.size_picked_le _ _ _) ?_; omega)); k_whole); intro _ _ _ _ _))
local macro_rules | `(tactic| walk_at "truthy bytes") => `(tactic| (k_here; (refine' truthy_bytes ?kz ?_; (case kz => first | omega | (refine Nat.le_trans (KBc.size_picked_le _ _ _) ?_; omega)); k_whole)))
local macro_rules | `(tactic| walk_at "call builtin:len") => `(tactic| (k_here; (with_reducible show wpAny _ _ (call (Value.builtin "len") [Value.bytes _ _]) _ _ _); (refine' RB.len ?kz ?_; (case kz => first | omega | (refine Nat.le_trans (KBc.size_picked_le _ _ _) ?_; omega)); k_whole; intro _)))
local macro_rules | `(tactic| walk_at "call ref") => `(tactic| (k_here; (with_reducible show wpAny _ _ (call (Value.ref 101) [Value.str _ _]) _ _ _); k_dflt (refine' useE (c_fspathS _ _) ?k1 ?k2 ?k3 ?k4 ?k5 ?kK ?kd ?ku ?_; (case k1 => k_asm); (case k2 => k_asm); (case k3 => k_asm); (case k4 => k_asm); (case k5 => k_asm); (case kK => first | exact rfl | assumption); (case kd => ktr_room); (case ku => ktr_units); intro t9 h9 tk9 F9 N9; (try dsimp only); (try k_fold))))
local macro_rules | `(tactic| walk_at "call ref") => `(tactic| (k_here; (with_reducible show wpAny _ _ (call (Value.ref 101) [Value.bytes _ _]) _ _ _); k_dflt (refine' useE (c_fspathB _ _) ?k1 ?k2 ?k3 ?k4 ?k5 ?kK ?kd ?ku ?_; (case k1 => k_asm); (case k2 => k_asm); (case k3 => k_asm); (case k4 => k_asm); (case k5 => k_asm); (case kK => first | exact rfl | assumption); (case kd => ktr_room); (case ku => ktr_units); intro t9 h9 tk9 F9 N9; (try dsimp only); (try k_fold))))
local macro_rules | `(tactic| walk_at "call ref") => `(tactic| (k_here; (with_reducible show wpAny _ _ (call (Value.ref 115) [Value.str _ _]) _ _ _); k_dflt (refine' useE (c_get_sepS _ _) ?k1 ?k2 ?k3 ?k4 ?k5 ?kK ?kd ?ku ?_; (case k1 => k_asm); (case k2 => k_asm); (case k3 => k_asm); (case k4 => k_asm); (case k5 => k_asm); (case kK => first | exact rfl | assumption); (case kd => ktr_room); (case ku => ktr_units); intro t9 h9 tk9 F9 N9; (try dsimp only); (try k_fold))))
local macro_rules | `(tactic| walk_at "call ref") => `(tactic| (k_here; (with_reducible show wpAny _ _ (call (Value.ref 115) [Value.bytes _ _]) _ _ _); k_dflt (refine' useE (c_get_sepB _ _) ?k1 ?k2 ?k3 ?k4 ?k5 ?kK ?kd ?ku ?_; (case k1 => k_asm); (case k2 => k_asm); (case k3 => k_asm); (case k4 => k_asm); (case k5 => k_asm); (case kK => first | exact rfl | assumption); (case kd => ktr_room); (case ku => ktr_units); intro t9 h9 tk9 F9 N9; (try dsimp only); (try k_fold))))
set_option maxRecDepth 100000 in
set_option maxHeartbeats 8000000 in
theorem c_basenameS {w mean mg mb} (r : List Nat) (t : Tok) (hr : r.length ≤ 1000) : CtrV w mean mg mb 132 2 20 [.str (RS r) t] (fun R => R = fun t => .str (RS (nm sl r)) t) := by
  w_top off
  k_with_none
  unfold CtrV
  k_fill
  intro dp un gd cn cs a ccd cl outer A₀ base h₀ L m news s Q E B F X N T hk hd hu hret
  have hx : (RS r).length ≤ 1000 := by rw [RS_len]; exact hr
  refine wpAny_call ?_
  k_dflt ktr_enter
  k_steps
  all_goals
    rw [baseS]
    exact retE hret (by k_asm) (by k_asm)
set_option maxRecDepth 100000 in
set_option maxHeartbeats 8000000 in
theorem c_basenameB {w mean mg mb} (r : List Nat) (t : Tok) (hr : r.length ≤ 1000) (ho : Oct r) : CtrV w mean mg mb 132 2 20 [.bytes (RY r) t] (fun R => R = fun t => .bytes (RY (nm sl r)) t) := by
  w_top off
  k_with_none
  unfold CtrV
  k_fill
  intro dp un gd cn cs a ccd cl outer A₀ base h₀ L m news s Q E B F X N T hk hd hu hret
  have hx : (RY r).size ≤ 1000 := by rw [RY_size]; exact hr
  refine wpAny_call ?_
  k_dflt ktr_enter
  k_steps
  all_goals
    rw [baseY ho]
    exact retE hret (by k_asm) (by k_asm)
set_option maxRecDepth 100000 in
set_option maxHeartbeats 8000000 in
theorem c_dirnameS {w mean mg mb} (r : List Nat) (t : Tok) (hr : r.length ≤ 1000) : CtrV w mean mg mb 139 2 20 [.str (RS r) t] (fun R => R = fun t => .str (RS (hdr sl r)) t) := by
  w_top off
  k_with_none
  unfold CtrV
  k_fill
  intro dp un gd cn cs a ccd cl outer A₀ base h₀ L m news s Q E B F X N T hk hd hu hret
  have hx : (RS r).length ≤ 1000 := by rw [RS_len]; exact hr
  refine wpAny_call ?_
  k_dflt ktr_enter
  k_steps
  all_goals
    first | rw [dirA (by assumption)] | rw [dirB (by assumption)] | rw [dirC (by assumption)]
    exact retE hret (by k_asm) (by k_asm)
set_option maxRecDepth 100000 in
set_option maxHeartbeats 8000000 in
theorem c_dirnameB {w mean mg mb} (r : List Nat) (t : Tok) (hr : r.length ≤ 1000) (ho : Oct r) : CtrV w mean mg mb 139 2 20 [.bytes (RY r) t] (fun R => R = fun t => .bytes (RY (hdr sl r)) t) := by
  w_top off
  k_with_none
  unfold CtrV
  k_fill
  intro dp un gd cn cs a ccd cl outer A₀ base h₀ L m news s Q E B F X N T hk hd hu hret
  have hx : (RY r).size ≤ 1000 := by rw [RY_size]; exact hr
  refine wpAny_call ?_
  k_dflt ktr_enter
  k_steps
  all_goals
    first | rw [dirAY ho (by assumption)] | rw [dirBY ho (by assumption)] | rw [dirCY ho (by assumption)]
    exact retE hret (by k_asm) (by k_asm)
end
section
open PySem.Calls
local macro_rules | `(tactic| walk_at "call type:type") => `(tactic| (k_here; (with_reducible show wpAny _ _ (call (Value.type "type") [Value.bytes _ _]) _ _ _); refine call_type_of (Tx := "bytes") rfl (by decide +kernel) ?_))
local macro_rules | `(tactic| walk_at "call builtin:issubclass") => `(tactic| (k_here; k_dflt (first
  | (refine' issub_SN ?k1 ?k2 ?_; (case k1 => k_asm); (case k2 => k_mem); k_whole)
  | (refine' issub_BN ?k1 ?k2 ?_; (case k1 => k_asm); (case k2 => k_mem); k_whole))))
local macro_rules | `(tactic| walk_at "getMethod bytes") => `(tactic| with_reducible refine RB.m_rfind ?_)
local macro_rules | `(tactic| walk_at "getMethod bytes") => `(tactic| with_reducible refine RB.m_rstrip ?_)
local macro_rules | `(tactic| walk_at "call builtin:bytes.rfind") => `(tactic| refine RB.rfind ?_)
local macro_rules | `(tactic| walk_at "call builtin:bytes.rstrip") => `(tactic| (refine' RB.rstrip ?_ ?kz; (case kz => first | omega | (refine Nat.le_trans (KBc.size_picked_le _ _ _) ?_; omega)); k_whole; intro _ _))
local macro_rules | `(tactic| walk_at "subscriptTail") => `(tactic| (k_here; (with_reducible show wpAny _ _ (subscriptTail _ (Expr.Slice _ _ none _) (Value.bytes _ _) (Value.ref _)) _ _ _); (with_reducible rename Fr _ _ _ _ => F'); (with_reducible rename News _ _ _ _ => N'); (refine' RB.slice (s := ⟨_, _, _, _, _⟩) F' N' ?kl ?ku ?kz ?_; (case kl => constructor); (case ku => constructor); (case kz => first | omega | (refine Nat.le_trans (KBc.size_picked_le _ _ _) ?_; omega)); k_whole); intro _ _ _ _ _))
local macro_rules | `(tactic| walk_at "truthy bytes") => `(tactic| (k_here; (refine' truthy_bytes ?kz ?_; (case kz => first | omega | (refine Nat.le_trans (KBc.size_picked_le _ _ _) ?_; omega)); k_whole)))
local macro_rules | `(tactic| walk_at "call builtin:len") => `(tactic| (k_here; (with_reducible show wpAny _ _ (call (Value.builtin "len") [Value.bytes _ _]) _ _ _); (refine' RB.len ?kz ?_; (case kz => first | omega | (refine Nat.le_trans (KBc.size_picked_le _ _ _) ?_; omega)); k_whole; intro _)))
local macro_rules | `(tactic| walk_at "call ref") => `(tactic| (k_here; (with_reducible show wpAny _ _ (call (Value.ref 101) [Value.str _ _]) _ _ _); k_dflt (refine' useE (c_fspathS _ _) ?k1 ?k2 ?k3 ?k4 ?k5 ?kK ?kd ?ku ?_; (case k1 => k_asm); (case k2 => k_asm); (case k3 => k_asm); (case k4 => k_asm); (case k5 => k_asm); (case kK => first | exact rfl | assumption); (case kd => ktr_room); (case ku => ktr_units); intro t9 h9 tk9 F9 N9; (try dsimp only); (try k_fold))))
local macro_rules | `(tactic| walk_at "call ref") => `(tactic| (k_here; (with_reducible show wpAny _ _ (call (Value.ref 101) [Value.bytes _ _]) _ _ _); k_dflt (refine' useE (c_fspathB _ _) ?k1 ?k2 ?k3 ?k4 ?k5 ?kK ?kd ?ku ?_; (case k1 => k_asm); (case k2 => k_asm); (case k3 => k_asm); (case k4 => k_asm); (case k5 => k_asm); (case kK => first | exact rfl | assumption); (case kd => ktr_room); (case ku => ktr_units); intro t9 h9 tk9 F9 N9; (try dsimp only); (try k_fold))))
local macro_rules | `(tactic| walk_at "call ref") => `(tactic| (k_here; (with_reducible show wpAny _ _ (call (Value.ref 115) [Value.str _ _]) _ _ _); k_dflt (refine' useE (c_get_sepS _ _) ?k1 ?k2 ?k3 ?k4 ?k5 ?kK ?kd ?ku ?_; (case k1 => k_asm); (case k2 => k_asm); (case k3 => k_asm); (case k4 => k_asm); (case k5 => k_asm); (case kK => first | exact rfl | assumption); (case kd => ktr_room); (case ku => ktr_units); intro t9 h9 tk9 F9 N9; (try dsimp only); (try k_fold))))
local macro_rules | `(tactic| walk_at "call ref") => `(tactic| (k_here; (with_reducible show wpAny _ _ (call (Value.ref 115) [Value.bytes _ _]) _ _ _); k_dflt (refine' useE (c_get_sepB _ _) ?k1 ?k2 ?k3 ?k4 ?k5 ?kK ?kd ?ku ?_; (case k1 => k_asm); (case k2 => k_asm); (case k3 => k_asm); (case k4 => k_asm); (case k5 => k_asm); (case kK => first | exact rfl | assumption); (case kd => ktr_room); (case ku => ktr_units); intro t9 h9 tk9 F9 N9; (try dsimp only); (try k_fold))))
set_option maxRecDepth 100000 in
set_option maxHeartbeats 8000000 in
theorem c_splitext0S {w mean mg mb} (r : List Nat) (t t₂ t₃ : Tok) (hr : r.length ≤ 1000) : CtrP w mean mg mb 108 2 20 [.str (RS r) t, .str (Str.ofString "/") t₂, .none, .str (Str.ofString ".") t₃] (fun t => .str (RS (rt sl dt r)) t) (fun t => .str (RS (en sl dt r)) t) := by
  w_top off
  k_with_none
  unfold CtrP
  k_fill
  intro dp un gd cn cs a ccd cl outer A₀ base h₀ L m news s Q E B F X N T hk hd hu hret
  have hx : (RS r).length ≤ 1000 := by rw [RS_len]; exact hr
  have hs0 : -1 ≤ Txt.rfind (RS r) (Str.ofString "/") := by rw [slash_eq, rfindS]; exact lastAt_ge r
  have hd0 : Txt.rfind (RS r) (Str.ofString ".") < r.length := by rw [dot_eq, rfindS]; exact lastAt_lt r
  refine wpAny_call ?_
  k_dflt ktr_enter
  k_with_none
  k_with "exec While Compare cons nil" => k_while (fun _ fi => Txt.rfind (RS r) (Str.ofString "/") + 1 ≤ fi ∧ fi ≤ Txt.rfind (RS r) (Str.ofString ".") ∧ Dots r (Txt.rfind (RS r) (Str.ofString "/") + 1) fi) (fun _ fi => (Txt.rfind (RS r) (Str.ofString ".") - fi).toNat) "filenameIndex"
  k_with "state" => first | exact ⟨Int.le_refl _, by omega, dots_start _ _⟩ | exact dots_turn (by assumption) (by assumption) (by assumption) (by assumption) (by assumption) (by assumption)
  k_steps
  · obtain ⟨e1, e2⟩ := extS (r := r) (by assumption) (by assumption) (by assumption)
    exact retP hret (by assumption) (by assumption) (by assumption) (congrArg (fun x => Value.str x _) e1) (congrArg (fun x => Value.str x _) e2)
  · obtain ⟨e1, e2⟩ := noS2 (r := r) (by assumption) (by omega) (by assumption)
    exact retP hret (by assumption) (by assumption) (by assumption) (congrArg (fun x => Value.str x _) e1) (congrArg (fun x => Value.str x _) e2)
  · obtain ⟨e1, e2⟩ := noS' (r := r) (by omega)
    exact retP hret (by assumption) (by assumption) (by assumption) (congrArg (fun x => Value.str x _) e1) (congrArg (fun x => Value.str x _) e2)
set_option maxRecDepth 100000 in
set_option maxHeartbeats 8000000 in
theorem c_splitext0B {w mean mg mb} (r : List Nat) (t t₂ t₃ : Tok) (hr : r.length ≤ 1000) (ho : Oct r) : CtrP w mean mg mb 108 2 20 [.bytes (RY r) t, .bytes #[47] t₂, .none, .bytes #[46] t₃] (fun t => .bytes (RY (rt sl dt r)) t) (fun t => .bytes (RY (en sl dt r)) t) := by
  w_top off
  k_with_none
  unfold CtrP
  k_fill
  intro dp un gd cn cs a ccd cl outer A₀ base h₀ L m news s Q E B F X N T hk hd hu hret
  have hx : (RY r).size ≤ 1000 := by rw [RY_size]; exact hr
  have hs0 : -1 ≤ RB.brf (RY r) 47 := by rw [slash8, rfindY ho (by omega)]; exact lastAt_ge r
  have hd0 : RB.brf (RY r) 46 < r.length := by rw [dot8, rfindY ho (by omega)]; exact lastAt_lt r
  refine wpAny_call ?_
  k_dflt ktr_enter
  k_with_none
  k_with "exec While Compare cons nil" => k_while (fun _ fi => RB.brf (RY r) 47 + 1 ≤ fi ∧ fi ≤ RB.brf (RY r) 46 ∧ Dots r (RB.brf (RY r) 47 + 1) fi) (fun _ fi => (RB.brf (RY r) 46 - fi).toNat) "filenameIndex"
  k_with "state" => first | exact ⟨Int.le_refl _, by omega, dots_start _ _⟩ | exact dots_turnY ho (by assumption) (by assumption) (by assumption) (by assumption) (by assumption) (by assumption)
  k_steps
  · obtain ⟨e1, e2⟩ := extY (r := r) ho (by assumption) (by assumption) (by assumption)
    exact retP hret (by assumption) (by assumption) (by assumption) (congrArg (fun x => Value.bytes x _) e1) (congrArg (fun x => Value.bytes x _) e2)
  · obtain ⟨e1, e2⟩ := noY2 (r := r) ho (by assumption) (by omega) (by assumption)
    exact retP hret (by assumption) (by assumption) (by assumption) (congrArg (fun x => Value.bytes x _) e1) (congrArg (fun x => Value.bytes x _) e2)
  · obtain ⟨e1, e2⟩ := noY' (r := r) ho (by omega)
    exact retP hret (by assumption) (by assumption) (by assumption) (congrArg (fun x => Value.bytes x _) e1) (congrArg (fun x => Value.bytes x _) e2)
end
section
open PySem.Calls
local macro_rules | `(tactic| walk_at "call type:type") => `(tactic| (k_here; (with_reducible show wpAny _ _ (call (Value.type "type") [Value.bytes _ _]) _ _ _); refine call_type_of (Tx := "bytes") rfl (by decide +kernel) ?_))
local macro_rules | `(tactic| walk_at "call builtin:issubclass") => `(tactic| (k_here; k_dflt (first
  | (refine' issub_SN ?k1 ?k2 ?_; (case k1 => k_asm); (case k2 => k_mem); k_whole)
  | (refine' issub_BN ?k1 ?k2 ?_; (case k1 => k_asm); (case k2 => k_mem); k_whole))))
local macro_rules | `(tactic| walk_at "getMethod bytes") => `(tactic| with_reducible refine RB.m_rfind ?_)
local macro_rules | `(tactic| walk_at "getMethod bytes") => `(tactic| with_reducible refine RB.m_rstrip ?_)
local macro_rules | `(tactic| walk_at "call builtin:bytes.rfind") => `(tactic| refine RB.rfind ?_)
local macro_rules | `(tactic| walk_at "call builtin:bytes.rstrip") => `(tactic| (refine' RB.rstrip ?_ ?kz; (case kz => first | omega | (refine Nat.le_trans (KBc.size_picked_le _ _ _) ?_; omega)); k_whole; intro _ _))
local macro_rules | `(tactic| walk_at "subscriptTail") => `(tactic| (k_here; (with_reducible show wpAny _ _ (subscriptTail _ (Expr.Slice _ _ none _) (Value.bytes _ _) (Value.ref _)) _ _ _); (with_reducible rename Fr _ _ _ _ => F'); (with_reducible rename News _ _ _ _ => N'); (refine' RB.slice (s := ⟨_, _, _, _, _⟩) F' N' ?kl ?ku ?kz ?_; (case kl => constructor); (case ku => constructor); (case kz => first | omega | (refine Nat.le_trans (KBc.size_picked_le _ _ _) ?_; omega)); k_whole); intro _ _ _ _ _))
local macro_rules | `(tactic| walk_at "truthy bytes") => `(tactic| (k_here; (refine' truthy_bytes ?kz ?_; (case kz => first | omega | (refine Nat.le_trans (KBc.size_picked_le _ _ _) ?_; omega)); k_whole)))
local macro_rules | `(tactic| walk_at "call builtin:len") => `(tactic| (k_here; (with_reducible show wpAny _ _ (call (Value.builtin "len") [Value.bytes _ _]) _ _ _); (refine' RB.len ?kz ?_; (case kz => first | omega | (refine Nat.le_trans (KBc.size_picked_le _ _ _) ?_; omega)); k_whole; intro _)))
local macro_rules | `(tactic| walk_at "call ref") => `(tactic| (k_here; (with_reducible show wpAny _ _ (call (Value.ref 101) [Value.str _ _]) _ _ _); k_dflt (refine' useE (c_fspathS _ _) ?k1 ?k2 ?k3 ?k4 ?k5 ?kK ?kd ?ku ?_; (case k1 => k_asm); (case k2 => k_asm); (case k3 => k_asm); (case k4 => k_asm); (case k5 => k_asm); (case kK => first | exact rfl | assumption); (case kd => ktr_room); (case ku => ktr_units); intro t9 h9 tk9 F9 N9; (try dsimp only); (try k_fold))))
local macro_rules | `(tactic| walk_at "call ref") => `(tactic| (k_here; (with_reducible show wpAny _ _ (call (Value.ref 101) [Value.bytes _ _]) _ _ _); k_dflt (refine' useE (c_fspathB _ _) ?k1 ?k2 ?k3 ?k4 ?k5 ?kK ?kd ?ku ?_; (case k1 => k_asm); (case k2 => k_asm); (case k3 => k_asm); (case k4 => k_asm); (case k5 => k_asm); (case kK => first | exact rfl | assumption); (case kd => ktr_room); (case ku => ktr_units); intro t9 h9 tk9 F9 N9; (try dsimp only); (try k_fold))))
local macro_rules | `(tactic| walk_at "call ref") => `(tactic| (k_here; (with_reducible show wpAny _ _ (call (Value.ref 115) [Value.str _ _]) _ _ _); k_dflt (refine' useE (c_get_sepS _ _) ?k1 ?k2 ?k3 ?k4 ?k5 ?kK ?kd ?ku ?_; (case k1 => k_asm); (case k2 => k_asm); (case k3 => k_asm); (case k4 => k_asm); (case k5 => k_asm); (case kK => first | exact rfl | assumption); (case kd => ktr_room); (case ku => ktr_units); intro t9 h9 tk9 F9 N9; (try dsimp only); (try k_fold))))
local macro_rules | `(tactic| walk_at "call ref") => `(tactic| (k_here; (with_reducible show wpAny _ _ (call (Value.ref 115) [Value.bytes _ _]) _ _ _); k_dflt (refine' useE (c_get_sepB _ _) ?k1 ?k2 ?k3 ?k4 ?k5 ?kK ?kd ?ku ?_; (case k1 => k_asm); (case k2 => k_asm); (case k3 => k_asm); (case k4 => k_asm); (case k5 => k_asm); (case kK => first | exact rfl | assumption); (case kd => ktr_room); (case ku => ktr_units); intro t9 h9 tk9 F9 N9; (try dsimp only); (try k_fold))))
local macro_rules | `(tactic| walk_at "call ref") => `(tactic| (k_here; (with_reducible show wpAny _ _ (call (Value.ref 108) [Value.str (RS _) _, Value.str _ _, Value.none, Value.str _ _]) _ _ _); k_dflt (refine' useP (c_splitext0S _ _ _ _ (by first | assumption | exact sem_len_le (by assumption) | omega)) ?k1 ?k2 ?k3 ?k4 ?k5 ?kK ?kd ?ku ?_; (case k1 => k_asm); (case k2 => k_asm); (case k3 => k_asm); (case k4 => k_asm); (case k5 => k_asm); (case kK => first | exact rfl | assumption); (case kd => ktr_room); (case ku => ktr_units); intro r9 ta9 tb9 k9 h9 tk9 F9 N9 l1; (try dsimp only); (try k_fold))))
local macro_rules | `(tactic| walk_at "call ref") => `(tactic| (k_here; (with_reducible show wpAny _ _ (call (Value.ref 108) [Value.bytes (RY _) _, Value.bytes _ _, Value.none, Value.bytes _ _]) _ _ _); k_dflt (refine' useP (c_splitext0B _ _ _ _ (by first | assumption | exact sem_len_le (by assumption) | omega) (by assumption)) ?k1 ?k2 ?k3 ?k4 ?k5 ?kK ?kd ?ku ?_; (case k1 => k_asm); (case k2 => k_asm); (case k3 => k_asm); (case k4 => k_asm); (case k5 => k_asm); (case kK => first | exact rfl | assumption); (case kd => ktr_room); (case ku => ktr_units); intro r9 ta9 tb9 k9 h9 tk9 F9 N9 l1; (try dsimp only); (try k_fold))))
set_option maxRecDepth 100000 in
set_option maxHeartbeats 8000000 in
theorem c_splitextS {w mean mg mb} (r : List Nat) (t : Tok) (hr : r.length ≤ 1000) : CtrP w mean mg mb 122 3 30 [.str (RS r) t] (fun t => .str (RS (rt sl dt r)) t) (fun t => .str (RS (en sl dt r)) t) := by
  w_top off
  k_with_none
  unfold CtrP
  k_fill
  intro dp un gd cn cs a ccd cl outer A₀ base h₀ L m news s Q E B F X N T hk hd hu hret
  refine wpAny_call ?_
  k_dflt ktr_enter
  k_steps
  all_goals exact hret _ _ _ _ _ _ (by assumption) (by assumption) (by assumption)
set_option maxRecDepth 100000 in
set_option maxHeartbeats 8000000 in
theorem c_splitextB {w mean mg mb} (r : List Nat) (t : Tok) (hr : r.length ≤ 1000) (ho : Oct r) : CtrP w mean mg mb 122 3 30 [.bytes (RY r) t] (fun t => .bytes (RY (rt sl dt r)) t) (fun t => .bytes (RY (en sl dt r)) t) := by
  w_top off
  k_with_none
  unfold CtrP
  k_fill
  intro dp un gd cn cs a ccd cl outer A₀ base h₀ L m news s Q E B F X N T hk hd hu hret
  refine wpAny_call ?_
  k_dflt ktr_enter
  k_steps
  all_goals exact hret _ _ _ _ _ _ (by assumption) (by assumption) (by assumption)
end
section
open PySem.Calls
local macro_rules | `(tactic| walk_at "call type:type") => `(tactic| (k_here; (with_reducible show wpAny _ _ (call (Value.type "type") [Value.bytes _ _]) _ _ _); refine call_type_of (Tx := "bytes") rfl (by decide +kernel) ?_))
local macro_rules | `(tactic| walk_at "call builtin:issubclass") => `(tactic| (k_here; k_dflt (first
  | (refine' issub_SN ?k1 ?k2 ?_; (case k1 => k_asm); (case k2 => k_mem); k_whole)
  | (refine' issub_BN ?k1 ?k2 ?_; (case k1 => k_asm); (case k2 => k_mem); k_whole))))
local macro_rules | `(tactic| walk_at "getMethod bytes") => `(tactic| with_reducible refine RB.m_rfind ?_)
local macro_rules | `(tactic| walk_at "getMethod bytes") => `(tactic| with_reducible refine RB.m_rstrip ?_)
local macro_rules | `(tactic| walk_at "call builtin:bytes.rfind") => `(tactic| refine RB.rfind ?_)
local macro_rules | `(tactic| walk_at "call builtin:bytes.rstrip") => `(tactic| (refine' RB.rstrip ?_ ?kz; (case kz => first | omega | (refine Nat.le_trans (KBc.size_picked_le _ _ _) ?_; omega)); k_whole; intro _ _))
local macro_rules | `(tactic| walk_at "subscriptTail") => `(tactic| (k_here; (with_reducible show wpAny _ _ (subscriptTail _ (Expr.Slice _ _ none _) (Value.bytes _ _) (Value.ref _)) _ _ _); (with_reducible rename Fr _ _ _ _ => F'); (with_reducible rename News _ _ _ _ => N'); (refine' RB.slice (s := ⟨_, _, _, _, _⟩) F' N' ?kl ?ku ?kz ?_; (case kl => constructor); (case ku => constructor); (case kz => first | omega | (refine Nat.le_trans (KBc.size_picked_le _ _ _) ?_; omega)); k_whole); intro _ _ _ _ _))
local macro_rules | `(tactic| walk_at "truthy bytes") => `(tactic| (k_here; (refine' truthy_bytes ?kz ?_; (case kz => first | omega | (refine Nat.le_trans (KBc.size_picked_le _ _ _) ?_; omega)); k_whole)))
local macro_rules | `(tactic| walk_at "call builtin:len") => `(tactic| (k_here; (with_reducible show wpAny _ _ (call (Value.builtin "len") [Value.bytes _ _]) _ _ _); (refine' RB.len ?kz ?_; (case kz => first | omega | (refine Nat.le_trans (KBc.size_picked_le _ _ _) ?_; omega)); k_whole; intro _)))
local macro_rules | `(tactic| walk_at "call ref") => `(tactic| (k_here; (with_reducible show wpAny _ _ (call (Value.ref 101) [Value.str _ _]) _ _ _); k_dflt (refine' useE (c_fspathS _ _) ?k1 ?k2 ?k3 ?k4 ?k5 ?kK ?kd ?ku ?_; (case k1 => k_asm); (case k2 => k_asm); (case k3 => k_asm); (case k4 => k_asm); (case k5 => k_asm); (case kK => first | exact rfl | assumption); (case kd => ktr_room); (case ku => ktr_units); intro t9 h9 tk9 F9 N9; (try dsimp only); (try k_fold))))
local macro_rules | `(tactic| walk_at "call ref") => `(tactic| (k_here; (with_reducible show wpAny _ _ (call (Value.ref 101) [Value.bytes _ _]) _ _ _); k_dflt (refine' useE (c_fspathB _ _) ?k1 ?k2 ?k3 ?k4 ?k5 ?kK ?kd ?ku ?_; (case k1 => k_asm); (case k2 => k_asm); (case k3 => k_asm); (case k4 => k_asm); (case k5 => k_asm); (case kK => first | exact rfl | assumption); (case kd => ktr_room); (case ku => ktr_units); intro t9 h9 tk9 F9 N9; (try dsimp only); (try k_fold))))
local macro_rules | `(tactic| walk_at "call ref") => `(tactic| (k_here; (with_reducible show wpAny _ _ (call (Value.ref 115) [Value.str _ _]) _ _ _); k_dflt (refine' useE (c_get_sepS _ _) ?k1 ?k2 ?k3 ?k4 ?k5 ?kK ?kd ?ku ?_; (case k1 => k_asm); (case k2 => k_asm); (case k3 => k_asm); (case k4 => k_asm); (case k5 => k_asm); (case kK => first | exact rfl | assumption); (case kd => ktr_room); (case ku => ktr_units); intro t9 h9 tk9 F9 N9; (try dsimp only); (try k_fold))))
local macro_rules | `(tactic| walk_at "call ref") => `(tactic| (k_here; (with_reducible show wpAny _ _ (call (Value.ref 115) [Value.bytes _ _]) _ _ _); k_dflt (refine' useE (c_get_sepB _ _) ?k1 ?k2 ?k3 ?k4 ?k5 ?kK ?kd ?ku ?_; (case k1 => k_asm); (case k2 => k_asm); (case k3 => k_asm); (case k4 => k_asm); (case k5 => k_asm); (case kK => first | exact rfl | assumption); (case kd => ktr_room); (case ku => ktr_units); intro t9 h9 tk9 F9 N9; (try dsimp only); (try k_fold))))
local macro_rules | `(tactic| walk_at "call ref") => `(tactic| (k_here; (with_reducible show wpAny _ _ (call (Value.ref 108) [Value.str (RS _) _, Value.str _ _, Value.none, Value.str _ _]) _ _ _); k_dflt (refine' useP (c_splitext0S _ _ _ _ (by first | assumption | exact sem_len_le (by assumption) | omega)) ?k1 ?k2 ?k3 ?k4 ?k5 ?kK ?kd ?ku ?_; (case k1 => k_asm); (case k2 => k_asm); (case k3 => k_asm); (case k4 => k_asm); (case k5 => k_asm); (case kK => first | exact rfl | assumption); (case kd => ktr_room); (case ku => ktr_units); intro r9 ta9 tb9 k9 h9 tk9 F9 N9 l1; (try dsimp only); (try k_fold))))
local macro_rules | `(tactic| walk_at "call ref") => `(tactic| (k_here; (with_reducible show wpAny _ _ (call (Value.ref 108) [Value.bytes (RY _) _, Value.bytes _ _, Value.none, Value.bytes _ _]) _ _ _); k_dflt (refine' useP (c_splitext0B _ _ _ _ (by first | assumption | exact sem_len_le (by assumption) | omega) (by assumption)) ?k1 ?k2 ?k3 ?k4 ?k5 ?kK ?kd ?ku ?_; (case k1 => k_asm); (case k2 => k_asm); (case k3 => k_asm); (case k4 => k_asm); (case k5 => k_asm); (case kK => first | exact rfl | assumption); (case kd => ktr_room); (case ku => ktr_units); intro r9 ta9 tb9 k9 h9 tk9 F9 N9 l1; (try dsimp only); (try k_fold))))
local macro_rules | `(tactic| walk_at "call ref") => `(tactic| (k_here; (with_reducible show wpAny _ _ (call (Value.ref 122) [Value.str (RS _) _]) _ _ _); k_dflt (refine' useP (c_splitextS _ _ (by first | assumption | exact sem_len_le (by assumption) | omega)) ?k1 ?k2 ?k3 ?k4 ?k5 ?kK ?kd ?ku ?_; (case k1 => k_asm); (case k2 => k_asm); (case k3 => k_asm); (case k4 => k_asm); (case k5 => k_asm); (case kK => first | exact rfl | assumption); (case kd => ktr_room); (case ku => ktr_units); intro r9 ta9 tb9 k9 h9 tk9 F9 N9 l1; (try dsimp only); (try k_fold))))
local macro_rules | `(tactic| walk_at "call ref") => `(tactic| (k_here; (with_reducible show wpAny _ _ (call (Value.ref 122) [Value.bytes (RY _) _]) _ _ _); k_dflt (refine' useP (c_splitextB _ _ (by first | assumption | exact sem_len_le (by assumption) | omega) (by assumption)) ?k1 ?k2 ?k3 ?k4 ?k5 ?kK ?kd ?ku ?_; (case k1 => k_asm); (case k2 => k_asm); (case k3 => k_asm); (case k4 => k_asm); (case k5 => k_asm); (case kK => first | exact rfl | assumption); (case kd => ktr_room); (case ku => ktr_units); intro r9 ta9 tb9 k9 h9 tk9 F9 N9 l1; (try dsimp only); (try k_fold))))
local macro_rules | `(tactic| walk_at "call ref") => `(tactic| (k_here; (with_reducible show wpAny _ _ (call (Value.ref 132) [Value.str (RS _) _]) _ _ _); k_dflt (refine' useE (c_basenameS _ _ (by first | assumption | exact sem_len_le (by assumption) | omega)) ?k1 ?k2 ?k3 ?k4 ?k5 ?kK ?kd ?ku ?_; (case k1 => k_asm); (case k2 => k_asm); (case k3 => k_asm); (case k4 => k_asm); (case k5 => k_asm); (case kK => first | exact rfl | assumption); (case kd => ktr_room); (case ku => ktr_units); intro t9 h9 tk9 F9 N9; (try dsimp only); (try k_fold))))
local macro_rules | `(tactic| walk_at "call ref") => `(tactic| (k_here; (with_reducible show wpAny _ _ (call (Value.ref 132) [Value.bytes (RY _) _]) _ _ _); k_dflt (refine' useE (c_basenameB _ _ (by first | assumption | exact sem_len_le (by assumption) | omega) (by assumption)) ?k1 ?k2 ?k3 ?k4 ?k5 ?kK ?kd ?ku ?_; (case k1 => k_asm); (case k2 => k_asm); (case k3 => k_asm); (case k4 => k_asm); (case k5 => k_asm); (case kK => first | exact rfl | assumption); (case kd => ktr_room); (case ku => ktr_units); intro t9 h9 tk9 F9 N9; (try dsimp only); (try k_fold))))
local macro_rules | `(tactic| walk_at "call ref") => `(tactic| (k_here; (with_reducible show wpAny _ _ (call (Value.ref 139) [Value.str (RS _) _]) _ _ _); k_dflt (refine' useE (c_dirnameS _ _ (by first | assumption | exact sem_len_le (by assumption) | omega)) ?k1 ?k2 ?k3 ?k4 ?k5 ?kK ?kd ?ku ?_; (case k1 => k_asm); (case k2 => k_asm); (case k3 => k_asm); (case k4 => k_asm); (case k5 => k_asm); (case kK => first | exact rfl | assumption); (case kd => ktr_room); (case ku => ktr_units); intro t9 h9 tk9 F9 N9; (try dsimp only); (try k_fold))))
local macro_rules | `(tactic| walk_at "call ref") => `(tactic| (k_here; (with_reducible show wpAny _ _ (call (Value.ref 139) [Value.bytes (RY _) _]) _ _ _); k_dflt (refine' useE (c_dirnameB _ _ (by first | assumption | exact sem_len_le (by assumption) | omega) (by assumption)) ?k1 ?k2 ?k3 ?k4 ?k5 ?kK ?kd ?ku ?_; (case k1 => k_asm); (case k2 => k_asm); (case k3 => k_asm); (case k4 => k_asm); (case k5 => k_asm); (case kK => first | exact rfl | assumption); (case kd => ktr_room); (case ku => ktr_units); intro t9 h9 tk9 F9 N9; (try dsimp only); (try k_fold))))
set_option maxRecDepth 100000 in
set_option maxHeartbeats 8000000 in
theorem c_deedS {w mean mg mb} (k : Nat) (r : List Nat) (t t₂ : Tok) (hr : r.length ≤ 1000) (hk4 : k = 66 ∨ k = 68 ∨ k = 69 ∨ k = 83) : CtrV w mean mg mb 178 4 40 [.str ⟨#[k]⟩ t₂, .str (RS r) t] (fun R => R = fun t => .str (RS (deed k r)) t) := by
  w_top off
  k_with_none
  unfold CtrV
  k_fill
  intro dp un gd cn cs a ccd cl outer A₀ base h₀ L m news s Q E B F X N T hk hd hu hret
  refine wpAny_call ?_
  k_dflt ktr_enter
  k_steps
  all_goals
    first | rw [deedB (k := k) (r := r) (by assumption)] | rw [deedD (k := k) (r := r) (by assumption)] | rw [deedE (k := k) (r := r) (by assumption)] | rw [deedS (k := k) (r := r) hk4 (by assumption) (by assumption) (by assumption)]
    exact retE hret (by k_asm) (by first | k_asm | (refine' sub_of ?kN ?kS; (case kN => assumption); (case kS => kcj_all)))
set_option maxRecDepth 100000 in
set_option maxHeartbeats 8000000 in
theorem c_deedY {w mean mg mb} (k : Nat) (r : List Nat) (t t₂ : Tok) (hr : r.length ≤ 1000) (ho : Oct r) (hk4 : k = 66 ∨ k = 68 ∨ k = 69 ∨ k = 83) : CtrV w mean mg mb 178 4 40 [.str ⟨#[k]⟩ t₂, .bytes (RY r) t] (fun R => R = fun t => .bytes (RY (deed k r)) t) := by
  w_top off
  k_with_none
  unfold CtrV
  k_fill
  intro dp un gd cn cs a ccd cl outer A₀ base h₀ L m news s Q E B F X N T hk hd hu hret
  refine wpAny_call ?_
  k_dflt ktr_enter
  k_steps
  all_goals
    first | rw [deedB (k := k) (r := r) (by assumption)] | rw [deedD (k := k) (r := r) (by assumption)] | rw [deedE (k := k) (r := r) (by assumption)] | rw [deedS (k := k) (r := r) hk4 (by assumption) (by assumption) (by assumption)]
    exact retE hret (by k_asm) (by first | k_asm | (refine' sub_of ?kN ?kS; (case kN => assumption); (case kS => kcj_all)))
end
section
open PySem.Calls
theorem stop_down_le_and {N k₀ : Int} {B : Int → Bool} : StopDown (fun k => if N ≤ k then B k else false) k₀ (min k₀ (N - 1)) :=
  ⟨Int.min_le_left _ _, if_neg (by omega)⟩
theorem tw_take {p : Nat → Bool} : ∀ {r : List Nat} {j : Nat}, (∀ i, i < j → ∀ c, r[i]? = some c → p c = true) → (∀ c, r[j]? = some c → p c = false) → r.takeWhile p = r.take j ∧ r.dropWhile p = r.drop j
  | [], _, _, _ => by simp
  | x :: r, 0, _, h2 => by
    have hx := h2 x rfl
    rw [List.takeWhile_cons_of_neg (by simp [hx]), List.dropWhile_cons_of_neg (by simp [hx])]
    exact ⟨rfl, rfl⟩
  | x :: r, j + 1, h, h2 => by
    have hx := h 0 (by omega) x rfl
    obtain ⟨e1, e2⟩ := tw_take (p := p) (r := r) (j := j) (fun i hi c hc => h (i + 1) (by omega) c hc) (fun c hc => h2 c hc)
    rw [List.takeWhile_cons_of_pos hx, List.dropWhile_cons_of_pos hx, e1, e2]
    exact ⟨rfl, rfl⟩
theorem itemS {r : List Nat} {j : Int} (h0 : 0 ≤ j) (h1 : j < r.length) : ∃ c, r[r.length - 1 - j.toNat]? = some c ∧ Txt.item (RS r) j = ⟨#[c]⟩ := by
  have hlt : j.toNat < r.reverse.length := by rw [List.length_reverse]; omega
  have hlt2 : r.length - 1 - j.toNat < r.length := by omega
  refine ⟨r[r.length - 1 - j.toNat], List.getElem?_eq_getElem hlt2, ?_⟩
  unfold Txt.item Txt.charAt
  have hi : seqIndex? j (RS r).length = some j.toNat := by
    rw [RS_len]
    simp [seqIndex?, show ¬ j < 0 from by omega, h0, h1]
  rw [hi]
  have hc : (RS r).cps[j.toNat]? = some r[r.length - 1 - j.toNat] := by
    rw [← Array.getElem?_toList, RS_list, List.getElem?_reverse (by omega), List.getElem?_eq_getElem hlt2]
  simp only [Option.bind_some, hc, Option.getD_some]
theorem ne_code {c k : Nat} (h : ((⟨#[c]⟩ : Str) != ⟨#[k]⟩) = true) : c ≠ k := by
  intro e
  rw [e] at h
  simp at h
theorem eq_code {c k : Nat} (h : ((⟨#[c]⟩ : Str) == ⟨#[k]⟩) = true) : c = k := by
  rw [one_eq, beq_iff_eq] at h
  exact h
theorem ite_dec {P : Prop} [Decidable P] {b : Bool} : (if P then (if b = true then true else false) else false) = decide (P ∧ b = true) := by
  by_cases h : P
  · rw [if_pos h]
    cases b <;> simp [h]
  · rw [if_neg h]
    simp [h]
/-- the name, by the twin's loop -/
theorem nameW {r : List Nat} {k : Int} (h1 : k ≤ ((RS r).length : Int)) (h0 : min ((RS r).length : Int) 0 ≤ k)
    (h2 : ∀ j : Int, k < j → j ≤ ((RS r).length : Int) → (if 0 < j then if (Txt.item (RS r) (j - 1) != Str.ofString "/") = true then true else false else false) = true)
    (h3 : (if 0 < k then if (Txt.item (RS r) (k - 1) != Str.ofString "/") = true then true else false else false) = false) : Txt.slice (RS r) (some k) none = RS (nm sl r) := by
  rw [RS_len] at h1 h0 h2
  rw [fromS (by omega) h1]
  have key := tw_take (p := fun c => !sl c) (r := r) (j := r.length - k.toNat) (fun i hi c hc => by
    have h4 := h2 ((r.length : Int) - i) (by omega) (by omega)
    rw [ite_dec, decide_eq_true_eq] at h4
    obtain ⟨d, hd, he⟩ := itemS (r := r) (j := (r.length : Int) - i - 1) (by omega) (by omega)
    rw [he, slash_eq] at h4
    rw [show r.length - 1 - ((r.length : Int) - i - 1).toNat = i from by omega, hc] at hd
    have h5 := ne_code h4.2
    rw [← Option.some.inj hd] at h5
    simpa [sl] using h5) (fun c hc => by
    have hlt : r.length - k.toNat < r.length := by
      rcases Nat.lt_or_ge (r.length - k.toNat) r.length with h | h
      · exact h
      · rw [List.getElem?_eq_none h] at hc; cases hc
    have hk : 0 < k := by omega
    rw [ite_dec, decide_eq_false_iff_not] at h3
    obtain ⟨d, hd, he⟩ := itemS (r := r) (j := k - 1) (by omega) (by omega)
    rw [he, slash_eq] at h3
    rw [show r.length - 1 - (k - 1).toNat = r.length - k.toNat from by omega, hc] at hd
    cases hb : ((⟨#[d]⟩ : Str) != ⟨#[47]⟩) with
    | true => exact absurd ⟨hk, hb⟩ h3
    | false =>
      have h5 : (⟨#[d]⟩ : Str) = ⟨#[47]⟩ := bne_eq_false_iff_eq.mp hb
      have h6 : d = 47 := by injection h5 with h5; simpa using h5
      rw [Option.some.inj hd, h6]
      rfl)
  rw [← key.1]
  rfl
/-- the folder, by the twin's loop -/
theorem headW0 {r : List Nat} {k : Int} (h1 : k ≤ ((RS r).length : Int) - ((RS (nm sl r)).length : Int)) (h0 : min (((RS r).length : Int) - ((RS (nm sl r)).length : Int)) 0 ≤ k)
    (h2 : ∀ j : Int, k < j → j ≤ ((RS r).length : Int) - ((RS (nm sl r)).length : Int) → (if 0 < j then if (Txt.item (RS r) (j - 1) == Str.ofString "/") = true then true else false else false) = true)
    (h3 : (if 0 < k then if (Txt.item (RS r) (k - 1) == Str.ofString "/") = true then true else false else false) = false) : 0 ≤ k ∧ (r.dropWhile fun c => !sl c).dropWhile sl = r.drop (r.length - k.toNat) := by
  rw [RS_len, RS_len] at h1 h0 h2
  have hle := nm_len sl r
  have hk0 : 0 ≤ k := by omega
  refine ⟨hk0, ?_⟩
  have hq : (r.dropWhile fun c => !sl c) = r.drop (nm sl r).length := (drop_tw (p := fun c => !sl c) r).symm
  rw [hq]
  have key := tw_take (p := sl) (r := r.drop (nm sl r).length) (j := r.length - (nm sl r).length - k.toNat) (fun i hi c hc => by
    rw [List.getElem?_drop] at hc
    have h4 := h2 ((r.length : Int) - (nm sl r).length - i) (by omega) (by omega)
    rw [ite_dec, decide_eq_true_eq] at h4
    obtain ⟨d, hd, he⟩ := itemS (r := r) (j := (r.length : Int) - (nm sl r).length - i - 1) (by omega) (by omega)
    rw [he, slash_eq] at h4
    rw [show r.length - 1 - ((r.length : Int) - (nm sl r).length - i - 1).toNat = (nm sl r).length + i from by omega, hc] at hd
    have h5 := eq_code h4.2
    rw [Option.some.inj hd, h5]
    rfl) (fun c hc => by
    rw [List.getElem?_drop] at hc
    have hlt : (nm sl r).length + (r.length - (nm sl r).length - k.toNat) < r.length := by
      rcases Nat.lt_or_ge ((nm sl r).length + (r.length - (nm sl r).length - k.toNat)) r.length with h | h
      · exact h
      · rw [List.getElem?_eq_none h] at hc; cases hc
    have hk : 0 < k := by omega
    rw [ite_dec, decide_eq_false_iff_not] at h3
    obtain ⟨d, hd, he⟩ := itemS (r := r) (j := k - 1) (by omega) (by omega)
    rw [he, slash_eq, one_eq, beq_iff_eq] at h3
    rw [show r.length - 1 - (k - 1).toNat = (nm sl r).length + (r.length - (nm sl r).length - k.toNat) from by omega, hc] at hd
    have h6 : d ≠ 47 := fun e => h3 ⟨hk, e⟩
    rw [Option.some.inj hd]
    simpa [sl] using h6)
  rw [key.2, List.drop_drop]
  congr 1
  omega
theorem headW1 {r : List Nat} {k : Int} (h1 : k ≤ ((RS r).length : Int) - ((RS (nm sl r)).length : Int)) (h0 : min (((RS r).length : Int) - ((RS (nm sl r)).length : Int)) 0 ≤ k)
    (h2 : ∀ j : Int, k < j → j ≤ ((RS r).length : Int) - ((RS (nm sl r)).length : Int) → (if 0 < j then if (Txt.item (RS r) (j - 1) == Str.ofString "/") = true then true else false else false) = true)
    (h3 : (if 0 < k then if (Txt.item (RS r) (k - 1) == Str.ofString "/") = true then true else false else false) = false) (hk : 0 < k) : Txt.slice (RS r) none (some k) = RS (hdr sl r) := by
  obtain ⟨h4, h5⟩ := headW0 h1 h0 h2 h3
  rw [RS_len, RS_len] at h1
  rw [toS h4 (by omega)]
  unfold hdr
  dsimp only
  rw [if_neg, h5]
  rw [h5]
  intro e
  have h6 := congrArg List.length e
  rw [List.length_drop, List.length_nil] at h6
  omega
theorem headW2 {r : List Nat} {k : Int} (h1 : k ≤ ((RS r).length : Int) - ((RS (nm sl r)).length : Int)) (h0 : min (((RS r).length : Int) - ((RS (nm sl r)).length : Int)) 0 ≤ k)
    (h2 : ∀ j : Int, k < j → j ≤ ((RS r).length : Int) - ((RS (nm sl r)).length : Int) → (if 0 < j then if (Txt.item (RS r) (j - 1) == Str.ofString "/") = true then true else false else false) = true)
    (h3 : (if 0 < k then if (Txt.item (RS r) (k - 1) == Str.ofString "/") = true then true else false else false) = false) (hk : ¬ 0 < k) : Txt.slice (RS r) none (some (((RS r).length : Int) - ((RS (nm sl r)).length : Int))) = RS (hdr sl r) := by
  obtain ⟨h4, h5⟩ := headW0 h1 h0 h2 h3
  have hle := nm_len sl r
  rw [RS_len, RS_len, toS (by omega) (by omega)]
  unfold hdr
  dsimp only
  have hq : (r.dropWhile fun c => !sl c) = r.drop (nm sl r).length := (drop_tw (p := fun c => !sl c) r).symm
  rw [if_pos, hq]
  · rw [show r.length - ((r.length : Int) - (nm sl r).length).toNat = (nm sl r).length from by omega]
  · rw [h5, show r.length - k.toNat = r.length from by omega, List.drop_length]
/-- the ending, by the twin's loops -/
theorem endW0 {n : List Nat} {k : Int} (h1 : k ≤ ((RS n).length : Int) - 1) (h0 : min (((RS n).length : Int) - 1) (0 - 1) ≤ k)
    (h2 : ∀ j : Int, k < j → j ≤ ((RS n).length : Int) - 1 → (if 0 ≤ j then if (Txt.item (RS n) j != Str.ofString ".") = true then true else false else false) = true)
    (h3 : (if 0 ≤ k then if (Txt.item (RS n) k != Str.ofString ".") = true then true else false else false) = false) :
    -1 ≤ k ∧ (n.takeWhile fun c => !dt c) = n.take (n.length - (k + 1).toNat) ∧ (n.dropWhile fun c => !dt c) = n.drop (n.length - (k + 1).toNat) ∧ (0 ≤ k → n[n.length - (k + 1).toNat]? = some 46) := by
  rw [RS_len] at h1 h0 h2
  have hk0 : -1 ≤ k := by omega
  have hdot : 0 ≤ k → n[n.length - (k + 1).toNat]? = some 46 := fun hk => by
    rw [ite_dec, decide_eq_false_iff_not] at h3
    obtain ⟨d, hd, he⟩ := itemS (r := n) (j := k) (by omega) (by omega)
    rw [he, dot_eq] at h3
    rw [show n.length - 1 - k.toNat = n.length - (k + 1).toNat from by omega] at hd
    cases hb : ((⟨#[d]⟩ : Str) != ⟨#[46]⟩) with
    | true => exact absurd ⟨hk, hb⟩ h3
    | false =>
      have h5 : (⟨#[d]⟩ : Str) = ⟨#[46]⟩ := bne_eq_false_iff_eq.mp hb
      have h6 : d = 46 := by injection h5 with h5; simpa using h5
      rw [hd, h6]
  have key := tw_take (p := fun c => !dt c) (r := n) (j := n.length - (k + 1).toNat) (fun i hi c hc => by
    have h4 := h2 ((n.length : Int) - 1 - i) (by omega) (by omega)
    rw [ite_dec, decide_eq_true_eq] at h4
    obtain ⟨d, hd, he⟩ := itemS (r := n) (j := (n.length : Int) - 1 - i) (by omega) (by omega)
    rw [he, dot_eq] at h4
    rw [show n.length - 1 - ((n.length : Int) - 1 - i).toNat = i from by omega, hc] at hd
    have h5 := ne_code h4.2
    rw [← Option.some.inj hd] at h5
    simpa [dt] using h5) (fun c hc => by
    have hlt : n.length - (k + 1).toNat < n.length := by
      rcases Nat.lt_or_ge (n.length - (k + 1).toNat) n.length with h | h
      · exact h
      · rw [List.getElem?_eq_none h] at hc; cases hc
    rw [hdot (by omega)] at hc
    rw [← Option.some.inj hc]
    rfl)
  exact ⟨hk0, key.1, key.2, hdot⟩
theorem endW1 {r : List Nat} {k j : Int} (h1 : k ≤ ((RS (nm sl r)).length : Int) - 1) (h0 : min (((RS (nm sl r)).length : Int) - 1) (0 - 1) ≤ k)
    (h2 : ∀ j : Int, k < j → j ≤ ((RS (nm sl r)).length : Int) - 1 → (if 0 ≤ j then if (Txt.item (RS (nm sl r)) j != Str.ofString ".") = true then true else false else false) = true)
    (h3 : (if 0 ≤ k then if (Txt.item (RS (nm sl r)) k != Str.ofString ".") = true then true else false else false) = false)
    (g0 : 0 ≤ j) (g3 : (if j < k then if (Txt.item (RS (nm sl r)) j == Str.ofString ".") = true then true else false else false) = false) (hj : j < k) : Txt.slice (RS (nm sl r)) (some k) none = RS (en sl dt r) := by
  show _ = RS (xt dt (nm sl r))
  generalize nm sl r = n at *
  obtain ⟨e0, e1, e2, e3⟩ := endW0 h1 h0 h2 h3
  rw [RS_len] at h1
  rw [fromS (by omega) (by omega)]
  have hd := e3 (by omega)
  have hlt : n.length - (k + 1).toNat < n.length := by omega
  have hc : n.drop (n.length - (k + 1).toNat) = 46 :: n.drop (n.length - (k + 1).toNat + 1) := by
    rw [List.drop_eq_getElem_cons hlt]
    rw [List.getElem?_eq_getElem hlt] at hd
    rw [Option.some.inj hd]
  unfold xt
  rw [e2, hc]
  dsimp only
  rw [if_neg, e1]
  · congr 1
    rw [show n.length - k.toNat = n.length - (k + 1).toNat + 1 from by omega, List.take_succ_eq_append_getElem hlt]
    rw [List.getElem?_eq_getElem hlt] at hd
    rw [Option.some.inj hd]
  · intro hall
    rw [ite_dec, decide_eq_false_iff_not] at g3
    obtain ⟨d, hd', he⟩ := itemS (r := n) (j := j) (by omega) (by omega)
    rw [he, dot_eq, one_eq, beq_iff_eq] at g3
    have hm : d ∈ n.drop (n.length - (k + 1).toNat + 1) := by
      have h5 : (n.drop (n.length - (k + 1).toNat + 1))[k.toNat - 1 - j.toNat]? = some d := by
        rw [List.getElem?_drop, show n.length - (k + 1).toNat + 1 + (k.toNat - 1 - j.toNat) = n.length - 1 - j.toNat from by omega]
        exact hd'
      exact List.mem_of_getElem? h5
    exact g3 ⟨hj, beq_iff_eq.mp (List.all_eq_true.mp hall d hm)⟩
theorem endW2 {r : List Nat} {k j : Int} (h1 : k ≤ ((RS (nm sl r)).length : Int) - 1) (h0 : min (((RS (nm sl r)).length : Int) - 1) (0 - 1) ≤ k)
    (h2 : ∀ j : Int, k < j → j ≤ ((RS (nm sl r)).length : Int) - 1 → (if 0 ≤ j then if (Txt.item (RS (nm sl r)) j != Str.ofString ".") = true then true else false else false) = true)
    (h3 : (if 0 ≤ k then if (Txt.item (RS (nm sl r)) k != Str.ofString ".") = true then true else false else false) = false)
    (g2 : ∀ i : Int, 0 ≤ i → i < j → (if i < k then if (Txt.item (RS (nm sl r)) i == Str.ofString ".") = true then true else false else false) = true) (hj : ¬ j < k) : Str.ofString "" = RS (en sl dt r) := by
  have key : xt dt (nm sl r) = [] := by
    generalize nm sl r = n at *
    obtain ⟨e0, e1, e2, e3⟩ := endW0 h1 h0 h2 h3
    rw [RS_len] at h1
    unfold xt
    by_cases hk : 0 ≤ k
    · have hd := e3 hk
      have hlt : n.length - (k + 1).toNat < n.length := by omega
      have hc : n.drop (n.length - (k + 1).toNat) = 46 :: n.drop (n.length - (k + 1).toNat + 1) := by
        rw [List.drop_eq_getElem_cons hlt]
        rw [List.getElem?_eq_getElem hlt] at hd
        rw [Option.some.inj hd]
      rw [e2, hc]
      dsimp only
      rw [if_pos]
      refine List.all_eq_true.mpr fun c hc' => ?_
      obtain ⟨i, hi⟩ := List.getElem?_of_mem hc'
      rw [List.getElem?_drop] at hi
      have hil : n.length - (k + 1).toNat + 1 + i < n.length := by
        rcases Nat.lt_or_ge (n.length - (k + 1).toNat + 1 + i) n.length with h | h
        · exact h
        · rw [List.getElem?_eq_none h] at hi; cases hi
      have h5 := g2 (k - 1 - i) (by omega) (by omega)
      rw [ite_dec, decide_eq_true_eq] at h5
      obtain ⟨d, hd', he⟩ := itemS (r := n) (j := k - 1 - i) (by omega) (by omega)
      rw [he, dot_eq] at h5
      rw [show n.length - 1 - (k - 1 - i).toNat = n.length - (k + 1).toNat + 1 + i from by omega, hi] at hd'
      rw [Option.some.inj hd', eq_code h5.2]
      rfl
    · rw [e2, show n.length - (k + 1).toNat = n.length from by omega, List.drop_length]
  show _ = RS (xt dt (nm sl r))
  rw [key]
  decide +kernel
theorem twinS {r : List Nat} : Txt.slice (RS r) none (some (((RS r).length : Int) - ((RS (en sl dt r)).length : Int))) = RS (rt sl dt r) := by
  have hle := en_len' sl dt r
  rw [RS_len, RS_len, toS (by omega) (by omega)]
  unfold rt
  congr 2
  omega
/-- a word: its letters in the order written -/
def W (w : List Nat) : Str := ⟨w.toArray⟩
theorem W_len (w : List Nat) : (W w).length = w.length := rfl
theorem W_item {w : List Nat} {j : Int} (h0 : 0 ≤ j) (h1 : j < w.length) : ∃ c, w[j.toNat]? = some c ∧ Txt.item (W w) j = ⟨#[c]⟩ := by
  have hlt : j.toNat < w.length := by omega
  refine ⟨w[j.toNat], List.getElem?_eq_getElem hlt, ?_⟩
  unfold Txt.item Txt.charAt
  have hi : seqIndex? j (W w).length = some j.toNat := by
    rw [W_len]
    simp [seqIndex?, show ¬ j < 0 from by omega, h0, h1]
  rw [hi]
  have hc : (W w).cps[j.toNat]? = some w[j.toNat] := by
    rw [← Array.getElem?_toList]
    show w[j.toNat]? = _
    exact List.getElem?_eq_getElem hlt
  simp only [Option.bind_some, hc, Option.getD_some]
abbrev Letters (w : List Nat) : Prop := ∀ c ∈ w, c = 66 ∨ c = 68 ∨ c = 69 ∨ c = 83
theorem done_start {l r : List Nat} : ([] : List Int).length ≤ l.length ∧ RS r = RS (sem (l.drop (l.length - ([] : List Int).length)) r) := by
  refine ⟨Nat.zero_le _, ?_⟩
  rw [List.length_nil, Nat.sub_zero, List.drop_length]
  rfl
theorem sem_turn {l r : List Nat} {n : Nat} {k : Int} (e : k = ((W l).length : Int) - 1 - (n : Int)) (h : n < l.length) : deed (l.getD k.toNat 0) (sem (l.drop (l.length - n)) r) = sem (l.drop (l.length - (n + 1))) r := by
  rw [W_len] at e
  have hlt : l.length - (n + 1) < l.length := by omega
  rw [List.drop_eq_getElem_cons hlt, show l.length - (n + 1) + 1 = l.length - n from by omega]
  show _ = deed _ _
  have e2 : k.toNat = l.length - (n + 1) := by omega
  rw [e2, List.getD_eq_getElem?_getD, List.getElem?_eq_getElem hlt]
  rfl
theorem done_turn {l r : List Nat} {pre : List Int} {k : Int} (e : k = ((W l).length : Int) - 1 - (pre.length : Int)) (h : pre.length < (((W l).length : Int) - 1 - -1).toNat) :
    (pre ++ [k]).length ≤ l.length ∧ RS (deed (l.getD k.toNat 0) (sem (l.drop (l.length - pre.length)) r)) = RS (sem (l.drop (l.length - (pre ++ [k]).length)) r) := by
  have e' := e
  rw [W_len] at h e'
  rw [List.length_append, List.length_singleton]
  refine ⟨by omega, ?_⟩
  rw [sem_turn e (by omega)]
theorem Z_no {l : List Nat} (hl : Letters l) : (W l == Str.ofString "Z") = false := by
  rw [Z_eq, beq_eq_false_iff_ne]
  intro e
  have e2 : l.toArray = #[90] := congrArg Str.cps e
  have e3 : l = [90] := by simpa using e2
  have := hl 90 (by rw [e3]; exact .head _)
  omega
theorem sem_len (l r : List Nat) : (sem l r).length ≤ r.length := by
  induction l with
  | nil => exact Nat.le_refl _
  | cons k l ih => exact Nat.le_trans (deed_len k _) ih
theorem sem_oct {l r : List Nat} (h : Oct r) : Oct (sem l r) := by
  induction l with
  | nil => exact h
  | cons k l ih => exact fun c hc => ih c (deed_sub hc)
theorem sem_len_le {l r : List Nat} (h : r.length ≤ 1000) : (sem l r).length ≤ 1000 := Nat.le_trans (sem_len l r) h
end
section
open PySem.Calls
local macro_rules | `(tactic| walk_at "call type:type") => `(tactic| (k_here; (with_reducible show wpAny _ _ (call (Value.type "type") [Value.bytes _ _]) _ _ _); refine call_type_of (Tx := "bytes") rfl (by decide +kernel) ?_))
local macro_rules | `(tactic| walk_at "call builtin:issubclass") => `(tactic| (k_here; k_dflt (first
  | (refine' issub_SN ?k1 ?k2 ?_; (case k1 => k_asm); (case k2 => k_mem); k_whole)
  | (refine' issub_BN ?k1 ?k2 ?_; (case k1 => k_asm); (case k2 => k_mem); k_whole))))
local macro_rules | `(tactic| walk_at "getMethod bytes") => `(tactic| with_reducible refine RB.m_rfind ?_)
local macro_rules | `(tactic| walk_at "getMethod bytes") => `(tactic| with_reducible refine RB.m_rstrip ?_)
local macro_rules | `(tactic| walk_at "call builtin:bytes.rfind") => `(tactic| refine RB.rfind ?_)
local macro_rules | `(tactic| walk_at "call builtin:bytes.rstrip") => `(tactic| (refine' RB.rstrip ?_ ?kz; (case kz => first | omega | (refine Nat.le_trans (KBc.size_picked_le _ _ _) ?_; omega)); k_whole; intro _ _))
local macro_rules | `(tactic| walk_at "subscriptTail") => `(tactic| (k_here; (with_reducible show wpAny _ _ (subscriptTail _ (Expr.Slice _ _ none _) (Value.bytes _ _) (Value.ref _)) _ _ _); (with_reducible rename Fr _ _ _ _ => F'); (with_reducible rename News _ _ _ _ => N'); (refine' RB.slice (s := ⟨_, _, _, _, _⟩) F' N' ?kl ?ku ?kz ?_; (case kl => constructor); (case ku => constructor); (case kz => first | omega | (refine Nat.le_trans (KBc.size_picked_le _ _ _) ?_; omega)); k_whole); intro _ _ _ _ _))
local macro_rules | `(tactic| walk_at "truthy bytes") => `(tactic| (k_here; (refine' truthy_bytes ?kz ?_; (case kz => first | omega | (refine Nat.le_trans (KBc.size_picked_le _ _ _) ?_; omega)); k_whole)))
local macro_rules | `(tactic| walk_at "call builtin:len") => `(tactic| (k_here; (with_reducible show wpAny _ _ (call (Value.builtin "len") [Value.bytes _ _]) _ _ _); (refine' RB.len ?kz ?_; (case kz => first | omega | (refine Nat.le_trans (KBc.size_picked_le _ _ _) ?_; omega)); k_whole; intro _)))
local macro_rules | `(tactic| walk_at "call ref") => `(tactic| (k_here; (with_reducible show wpAny _ _ (call (Value.ref 101) [Value.str _ _]) _ _ _); k_dflt (refine' useE (c_fspathS _ _) ?k1 ?k2 ?k3 ?k4 ?k5 ?kK ?kd ?ku ?_; (case k1 => k_asm); (case k2 => k_asm); (case k3 => k_asm); (case k4 => k_asm); (case k5 => k_asm); (case kK => first | exact rfl | assumption); (case kd => ktr_room); (case ku => ktr_units); intro t9 h9 tk9 F9 N9; (try dsimp only); (try k_fold))))
local macro_rules | `(tactic| walk_at "call ref") => `(tactic| (k_here; (with_reducible show wpAny _ _ (call (Value.ref 101) [Value.bytes _ _]) _ _ _); k_dflt (refine' useE (c_fspathB _ _) ?k1 ?k2 ?k3 ?k4 ?k5 ?kK ?kd ?ku ?_; (case k1 => k_asm); (case k2 => k_asm); (case k3 => k_asm); (case k4 => k_asm); (case k5 => k_asm); (case kK => first | exact rfl | assumption); (case kd => ktr_room); (case ku => ktr_units); intro t9 h9 tk9 F9 N9; (try dsimp only); (try k_fold))))
local macro_rules | `(tactic| walk_at "call ref") => `(tactic| (k_here; (with_reducible show wpAny _ _ (call (Value.ref 115) [Value.str _ _]) _ _ _); k_dflt (refine' useE (c_get_sepS _ _) ?k1 ?k2 ?k3 ?k4 ?k5 ?kK ?kd ?ku ?_; (case k1 => k_asm); (case k2 => k_asm); (case k3 => k_asm); (case k4 => k_asm); (case k5 => k_asm); (case kK => first | exact rfl | assumption); (case kd => ktr_room); (case ku => ktr_units); intro t9 h9 tk9 F9 N9; (try dsimp only); (try k_fold))))
local macro_rules | `(tactic| walk_at "call ref") => `(tactic| (k_here; (with_reducible show wpAny _ _ (call (Value.ref 115) [Value.bytes _ _]) _ _ _); k_dflt (refine' useE (c_get_sepB _ _) ?k1 ?k2 ?k3 ?k4 ?k5 ?kK ?kd ?ku ?_; (case k1 => k_asm); (case k2 => k_asm); (case k3 => k_asm); (case k4 => k_asm); (case k5 => k_asm); (case kK => first | exact rfl | assumption); (case kd => ktr_room); (case ku => ktr_units); intro t9 h9 tk9 F9 N9; (try dsimp only); (try k_fold))))
local macro_rules | `(tactic| walk_at "call ref") => `(tactic| (k_here; (with_reducible show wpAny _ _ (call (Value.ref 108) [Value.str (RS _) _, Value.str _ _, Value.none, Value.str _ _]) _ _ _); k_dflt (refine' useP (c_splitext0S _ _ _ _ (by first | assumption | exact sem_len_le (by assumption) | omega)) ?k1 ?k2 ?k3 ?k4 ?k5 ?kK ?kd ?ku ?_; (case k1 => k_asm); (case k2 => k_asm); (case k3 => k_asm); (case k4 => k_asm); (case k5 => k_asm); (case kK => first | exact rfl | assumption); (case kd => ktr_room); (case ku => ktr_units); intro r9 ta9 tb9 k9 h9 tk9 F9 N9 l1; (try dsimp only); (try k_fold))))
local macro_rules | `(tactic| walk_at "call ref") => `(tactic| (k_here; (with_reducible show wpAny _ _ (call (Value.ref 108) [Value.bytes (RY _) _, Value.bytes _ _, Value.none, Value.bytes _ _]) _ _ _); k_dflt (refine' useP (c_splitext0B _ _ _ _ (by first | assumption | exact sem_len_le (by assumption) | omega) (by assumption)) ?k1 ?k2 ?k3 ?k4 ?k5 ?kK ?kd ?ku ?_; (case k1 => k_asm); (case k2 => k_asm); (case k3 => k_asm); (case k4 => k_asm); (case k5 => k_asm); (case kK => first | exact rfl | assumption); (case kd => ktr_room); (case ku => ktr_units); intro r9 ta9 tb9 k9 h9 tk9 F9 N9 l1; (try dsimp only); (try k_fold))))
local macro_rules | `(tactic| walk_at "call ref") => `(tactic| (k_here; (with_reducible show wpAny _ _ (call (Value.ref 122) [Value.str (RS _) _]) _ _ _); k_dflt (refine' useP (c_splitextS _ _ (by first | assumption | exact sem_len_le (by assumption) | omega)) ?k1 ?k2 ?k3 ?k4 ?k5 ?kK ?kd ?ku ?_; (case k1 => k_asm); (case k2 => k_asm); (case k3 => k_asm); (case k4 => k_asm); (case k5 => k_asm); (case kK => first | exact rfl | assumption); (case kd => ktr_room); (case ku => ktr_units); intro r9 ta9 tb9 k9 h9 tk9 F9 N9 l1; (try dsimp only); (try k_fold))))
local macro_rules | `(tactic| walk_at "call ref") => `(tactic| (k_here; (with_reducible show wpAny _ _ (call (Value.ref 122) [Value.bytes (RY _) _]) _ _ _); k_dflt (refine' useP (c_splitextB _ _ (by first | assumption | exact sem_len_le (by assumption) | omega) (by assumption)) ?k1 ?k2 ?k3 ?k4 ?k5 ?kK ?kd ?ku ?_; (case k1 => k_asm); (case k2 => k_asm); (case k3 => k_asm); (case k4 => k_asm); (case k5 => k_asm); (case kK => first | exact rfl | assumption); (case kd => ktr_room); (case ku => ktr_units); intro r9 ta9 tb9 k9 h9 tk9 F9 N9 l1; (try dsimp only); (try k_fold))))
local macro_rules | `(tactic| walk_at "call ref") => `(tactic| (k_here; (with_reducible show wpAny _ _ (call (Value.ref 132) [Value.str (RS _) _]) _ _ _); k_dflt (refine' useE (c_basenameS _ _ (by first | assumption | exact sem_len_le (by assumption) | omega)) ?k1 ?k2 ?k3 ?k4 ?k5 ?kK ?kd ?ku ?_; (case k1 => k_asm); (case k2 => k_asm); (case k3 => k_asm); (case k4 => k_asm); (case k5 => k_asm); (case kK => first | exact rfl | assumption); (case kd => ktr_room); (case ku => ktr_units); intro t9 h9 tk9 F9 N9; (try dsimp only); (try k_fold))))
local macro_rules | `(tactic| walk_at "call ref") => `(tactic| (k_here; (with_reducible show wpAny _ _ (call (Value.ref 132) [Value.bytes (RY _) _]) _ _ _); k_dflt (refine' useE (c_basenameB _ _ (by first | assumption | exact sem_len_le (by assumption) | omega) (by assumption)) ?k1 ?k2 ?k3 ?k4 ?k5 ?kK ?kd ?ku ?_; (case k1 => k_asm); (case k2 => k_asm); (case k3 => k_asm); (case k4 => k_asm); (case k5 => k_asm); (case kK => first | exact rfl | assumption); (case kd => ktr_room); (case ku => ktr_units); intro t9 h9 tk9 F9 N9; (try dsimp only); (try k_fold))))
local macro_rules | `(tactic| walk_at "call ref") => `(tactic| (k_here; (with_reducible show wpAny _ _ (call (Value.ref 139) [Value.str (RS _) _]) _ _ _); k_dflt (refine' useE (c_dirnameS _ _ (by first | assumption | exact sem_len_le (by assumption) | omega)) ?k1 ?k2 ?k3 ?k4 ?k5 ?kK ?kd ?ku ?_; (case k1 => k_asm); (case k2 => k_asm); (case k3 => k_asm); (case k4 => k_asm); (case k5 => k_asm); (case kK => first | exact rfl | assumption); (case kd => ktr_room); (case ku => ktr_units); intro t9 h9 tk9 F9 N9; (try dsimp only); (try k_fold))))
local macro_rules | `(tactic| walk_at "call ref") => `(tactic| (k_here; (with_reducible show wpAny _ _ (call (Value.ref 139) [Value.bytes (RY _) _]) _ _ _); k_dflt (refine' useE (c_dirnameB _ _ (by first | assumption | exact sem_len_le (by assumption) | omega) (by assumption)) ?k1 ?k2 ?k3 ?k4 ?k5 ?kK ?kd ?ku ?_; (case k1 => k_asm); (case k2 => k_asm); (case k3 => k_asm); (case k4 => k_asm); (case k5 => k_asm); (case kK => first | exact rfl | assumption); (case kd => ktr_room); (case ku => ktr_units); intro t9 h9 tk9 F9 N9; (try dsimp only); (try k_fold))))
local macro_rules | `(tactic| walk_at "StopDown") => `(tactic| exact stop_down_le_and)
set_option maxRecDepth 100000 in
set_option maxHeartbeats 8000000 in
theorem c_name {w mean mg mb} (r : List Nat) (t : Tok) (hr : r.length ≤ 1000) : CtrV w mean mg mb 185 1 10 [.str (RS r) t] (fun R => R = fun t => .str (RS (nm sl r)) t) := by
  w_top off
  k_with_none
  unfold CtrV
  k_fill
  intro dp un gd cn cs a ccd cl outer A₀ base h₀ L m news s Q E B F X N T hk hd hu hret
  have hx : (RS r).length ≤ 1000 := by rw [RS_len]; exact hr
  refine wpAny_call ?_
  k_dflt ktr_enter
  k_with_none
  k_steps
  all_goals
    rw [nameW (r := r) (by assumption) (by assumption) (by assumption) (by assumption)]
    exact retE hret (by k_asm) (by k_asm)
end
section
open PySem.Calls
local macro_rules | `(tactic| walk_at "call type:type") => `(tactic| (k_here; (with_reducible show wpAny _ _ (call (Value.type "type") [Value.bytes _ _]) _ _ _); refine call_type_of (Tx := "bytes") rfl (by decide +kernel) ?_))
local macro_rules | `(tactic| walk_at "call builtin:issubclass") => `(tactic| (k_here; k_dflt (first
  | (refine' issub_SN ?k1 ?k2 ?_; (case k1 => k_asm); (case k2 => k_mem); k_whole)
  | (refine' issub_BN ?k1 ?k2 ?_; (case k1 => k_asm); (case k2 => k_mem); k_whole))))
local macro_rules | `(tactic| walk_at "getMethod bytes") => `(tactic| with_reducible refine RB.m_rfind ?_)
local macro_rules | `(tactic| walk_at "getMethod bytes") => `(tactic| with_reducible refine RB.m_rstrip ?_)
local macro_rules | `(tactic| walk_at "call builtin:bytes.rfind") => `(tactic| refine RB.rfind ?_)
local macro_rules | `(tactic| walk_at "call builtin:bytes.rstrip") => `(tactic| (refine' RB.rstrip ?_ ?kz; (case kz => first | omega | (refine Nat.le_trans (KBc.size_picked_le _ _ _) ?_; omega)); k_whole; intro _ _))
local macro_rules | `(tactic| walk_at "subscriptTail") => `(tactic| (k_here; (with_reducible show wpAny _ _ (subscriptTail _ (Expr.Slice _ _ none _) (Value.bytes _ _) (Value.ref _)) _ _ _); (with_reducible rename Fr _ _ _ _ => F'); (with_reducible rename News _ _ _ _ => N'); (refine' RB.slice (s := ⟨_, _, _, _, _⟩) F' N' ?kl ?ku ?kz ?_; (case kl => constructor); (case ku => constructor); (case kz => first | omega | (refine Nat.le_trans (KBc.size_picked_le _ _ _) ?_; omega)); k_whole); intro _ _ _ _ _))
local macro_rules | `(tactic| walk_at "truthy bytes") => `(tactic| (k_here; (refine' truthy_bytes ?kz ?_; (case kz => first | omega | (refine Nat.le_trans (KBc.size_picked_le _ _ _) ?_; omega)); k_whole)))
local macro_rules | `(tactic| walk_at "call builtin:len") => `(tactic| (k_here; (with_reducible show wpAny _ _ (call (Value.builtin "len") [Value.bytes _ _]) _ _ _); (refine' RB.len ?kz ?_; (case kz => first | omega | (refine Nat.le_trans (KBc.size_picked_le _ _ _) ?_; omega)); k_whole; intro _)))
local macro_rules | `(tactic| walk_at "call ref") => `(tactic| (k_here; (with_reducible show wpAny _ _ (call (Value.ref 101) [Value.str _ _]) _ _ _); k_dflt (refine' useE (c_fspathS _ _) ?k1 ?k2 ?k3 ?k4 ?k5 ?kK ?kd ?ku ?_; (case k1 => k_asm); (case k2 => k_asm); (case k3 => k_asm); (case k4 => k_asm); (case k5 => k_asm); (case kK => first | exact rfl | assumption); (case kd => ktr_room); (case ku => ktr_units); intro t9 h9 tk9 F9 N9; (try dsimp only); (try k_fold))))
local macro_rules | `(tactic| walk_at "call ref") => `(tactic| (k_here; (with_reducible show wpAny _ _ (call (Value.ref 101) [Value.bytes _ _]) _ _ _); k_dflt (refine' useE (c_fspathB _ _) ?k1 ?k2 ?k3 ?k4 ?k5 ?kK ?kd ?ku ?_; (case k1 => k_asm); (case k2 => k_asm); (case k3 => k_asm); (case k4 => k_asm); (case k5 => k_asm); (case kK => first | exact rfl | assumption); (case kd => ktr_room); (case ku => ktr_units); intro t9 h9 tk9 F9 N9; (try dsimp only); (try k_fold))))
local macro_rules | `(tactic| walk_at "call ref") => `(tactic| (k_here; (with_reducible show wpAny _ _ (call (Value.ref 115) [Value.str _ _]) _ _ _); k_dflt (refine' useE (c_get_sepS _ _) ?k1 ?k2 ?k3 ?k4 ?k5 ?kK ?kd ?ku ?_; (case k1 => k_asm); (case k2 => k_asm); (case k3 => k_asm); (case k4 => k_asm); (case k5 => k_asm); (case kK => first | exact rfl | assumption); (case kd => ktr_room); (case ku => ktr_units); intro t9 h9 tk9 F9 N9; (try dsimp only); (try k_fold))))
local macro_rules | `(tactic| walk_at "call ref") => `(tactic| (k_here; (with_reducible show wpAny _ _ (call (Value.ref 115) [Value.bytes _ _]) _ _ _); k_dflt (refine' useE (c_get_sepB _ _) ?k1 ?k2 ?k3 ?k4 ?k5 ?kK ?kd ?ku ?_; (case k1 => k_asm); (case k2 => k_asm); (case k3 => k_asm); (case k4 => k_asm); (case k5 => k_asm); (case kK => first | exact rfl | assumption); (case kd => ktr_room); (case ku => ktr_units); intro t9 h9 tk9 F9 N9; (try dsimp only); (try k_fold))))
local macro_rules | `(tactic| walk_at "call ref") => `(tactic| (k_here; (with_reducible show wpAny _ _ (call (Value.ref 108) [Value.str (RS _) _, Value.str _ _, Value.none, Value.str _ _]) _ _ _); k_dflt (refine' useP (c_splitext0S _ _ _ _ (by first | assumption | exact sem_len_le (by assumption) | omega)) ?k1 ?k2 ?k3 ?k4 ?k5 ?kK ?kd ?ku ?_; (case k1 => k_asm); (case k2 => k_asm); (case k3 => k_asm); (case k4 => k_asm); (case k5 => k_asm); (case kK => first | exact rfl | assumption); (case kd => ktr_room); (case ku => ktr_units); intro r9 ta9 tb9 k9 h9 tk9 F9 N9 l1; (try dsimp only); (try k_fold))))
local macro_rules | `(tactic| walk_at "call ref") => `(tactic| (k_here; (with_reducible show wpAny _ _ (call (Value.ref 108) [Value.bytes (RY _) _, Value.bytes _ _, Value.none, Value.bytes _ _]) _ _ _); k_dflt (refine' useP (c_splitext0B _ _ _ _ (by first | assumption | exact sem_len_le (by assumption) | omega) (by assumption)) ?k1 ?k2 ?k3 ?k4 ?k5 ?kK ?kd ?ku ?_; (case k1 => k_asm); (case k2 => k_asm); (case k3 => k_asm); (case k4 => k_asm); (case k5 => k_asm); (case kK => first | exact rfl | assumption); (case kd => ktr_room); (case ku => ktr_units); intro r9 ta9 tb9 k9 h9 tk9 F9 N9 l1; (try dsimp only); (try k_fold))))
local macro_rules | `(tactic| walk_at "call ref") => `(tactic| (k_here; (with_reducible show wpAny _ _ (call (Value.ref 122) [Value.str (RS _) _]) _ _ _); k_dflt (refine' useP (c_splitextS _ _ (by first | assumption | exact sem_len_le (by assumption) | omega)) ?k1 ?k2 ?k3 ?k4 ?k5 ?kK ?kd ?ku ?_; (case k1 => k_asm); (case k2 => k_asm); (case k3 => k_asm); (case k4 => k_asm); (case k5 => k_asm); (case kK => first | exact rfl | assumption); (case kd => ktr_room); (case ku => ktr_units); intro r9 ta9 tb9 k9 h9 tk9 F9 N9 l1; (try dsimp only); (try k_fold))))
local macro_rules | `(tactic| walk_at "call ref") => `(tactic| (k_here; (with_reducible show wpAny _ _ (call (Value.ref 122) [Value.bytes (RY _) _]) _ _ _); k_dflt (refine' useP (c_splitextB _ _ (by first | assumption | exact sem_len_le (by assumption) | omega) (by assumption)) ?k1 ?k2 ?k3 ?k4 ?k5 ?kK ?kd ?ku ?_; (case k1 => k_asm); (case k2 => k_asm); (case k3 => k_asm); (case k4 => k_asm); (case k5 => k_asm); (case kK => first | exact rfl | assumption); (case kd => ktr_room); (case ku => ktr_units); intro r9 ta9 tb9 k9 h9 tk9 F9 N9 l1; (try dsimp only); (try k_fold))))
local macro_rules | `(tactic| walk_at "call ref") => `(tactic| (k_here; (with_reducible show wpAny _ _ (call (Value.ref 132) [Value.str (RS _) _]) _ _ _); k_dflt (refine' useE (c_basenameS _ _ (by first | assumption | exact sem_len_le (by assumption) | omega)) ?k1 ?k2 ?k3 ?k4 ?k5 ?kK ?kd ?ku ?_; (case k1 => k_asm); (case k2 => k_asm); (case k3 => k_asm); (case k4 => k_asm); (case k5 => k_asm); (case kK => first | exact rfl | assumption); (case kd => ktr_room); (case ku => ktr_units); intro t9 h9 tk9 F9 N9; (try dsimp only); (try k_fold))))
local macro_rules | `(tactic| walk_at "call ref") => `(tactic| (k_here; (with_reducible show wpAny _ _ (call (Value.ref 132) [Value.bytes (RY _) _]) _ _ _); k_dflt (refine' useE (c_basenameB _ _ (by first | assumption | exact sem_len_le (by assumption) | omega) (by assumption)) ?k1 ?k2 ?k3 ?k4 ?k5 ?kK ?kd ?ku ?_; (case k1 => k_asm); (case k2 => k_asm); (case k3 => k_asm); (case k4 => k_asm); (case k5 => k_asm); (case kK => first | exact rfl | assumption); (case kd => ktr_room); (case ku => ktr_units); intro t9 h9 tk9 F9 N9; (try dsimp only); (try k_fold))))
local macro_rules | `(tactic| walk_at "call ref") => `(tactic| (k_here; (with_reducible show wpAny _ _ (call (Value.ref 139) [Value.str (RS _) _]) _ _ _); k_dflt (refine' useE (c_dirnameS _ _ (by first | assumption | exact sem_len_le (by assumption) | omega)) ?k1 ?k2 ?k3 ?k4 ?k5 ?kK ?kd ?ku ?_; (case k1 => k_asm); (case k2 => k_asm); (case k3 => k_asm); (case k4 => k_asm); (case k5 => k_asm); (case kK => first | exact rfl | assumption); (case kd => ktr_room); (case ku => ktr_units); intro t9 h9 tk9 F9 N9; (try dsimp only); (try k_fold))))
local macro_rules | `(tactic| walk_at "call ref") => `(tactic| (k_here; (with_reducible show wpAny _ _ (call (Value.ref 139) [Value.bytes (RY _) _]) _ _ _); k_dflt (refine' useE (c_dirnameB _ _ (by first | assumption | exact sem_len_le (by assumption) | omega) (by assumption)) ?k1 ?k2 ?k3 ?k4 ?k5 ?kK ?kd ?ku ?_; (case k1 => k_asm); (case k2 => k_asm); (case k3 => k_asm); (case k4 => k_asm); (case k5 => k_asm); (case kK => first | exact rfl | assumption); (case kd => ktr_room); (case ku => ktr_units); intro t9 h9 tk9 F9 N9; (try dsimp only); (try k_fold))))
local macro_rules | `(tactic| walk_at "call ref") => `(tactic| (k_here; (with_reducible show wpAny _ _ (call (Value.ref 185) [Value.str (RS _) _]) _ _ _); k_dflt (refine' useE (c_name _ _ (by first | assumption | exact sem_len_le (by assumption) | omega)) ?k1 ?k2 ?k3 ?k4 ?k5 ?kK ?kd ?ku ?_; (case k1 => k_asm); (case k2 => k_asm); (case k3 => k_asm); (case k4 => k_asm); (case k5 => k_asm); (case kK => first | exact rfl | assumption); (case kd => ktr_room); (case ku => ktr_units); intro t9 h9 tk9 F9 N9; (try dsimp only); (try k_fold))))
local macro_rules | `(tactic| walk_at "StopDown") => `(tactic| exact stop_down_le_and)
set_option maxRecDepth 100000 in
set_option maxHeartbeats 8000000 in
theorem c_head {w mean mg mb} (r : List Nat) (t : Tok) (hr : r.length ≤ 1000) : CtrV w mean mg mb 192 2 20 [.str (RS r) t] (fun R => R = fun t => .str (RS (hdr sl r)) t) := by
  w_top off
  k_with_none
  unfold CtrV
  k_fill
  intro dp un gd cn cs a ccd cl outer A₀ base h₀ L m news s Q E B F X N T hk hd hu hret
  have hx : (RS r).length ≤ 1000 := by rw [RS_len]; exact hr
  have hn : (RS (nm sl r)).length ≤ (RS r).length := by rw [RS_len, RS_len]; exact nm_len _ r
  refine wpAny_call ?_
  k_dflt ktr_enter
  k_with_none
  k_steps
  all_goals
    first | rw [headW1 (r := r) (by assumption) (by assumption) (by assumption) (by assumption) (by assumption)] | rw [headW2 (r := r) (by assumption) (by assumption) (by assumption) (by assumption) (by assumption)]
    exact retE hret (by k_asm) (by k_asm)
set_option maxRecDepth 100000 in
set_option maxHeartbeats 8000000 in
theorem c_ending {w mean mg mb} (r : List Nat) (t : Tok) (hr : r.length ≤ 1000) : CtrV w mean mg mb 199 2 20 [.str (RS r) t] (fun R => R = fun t => .str (RS (en sl dt r)) t) := by
  w_top off
  k_with_none
  unfold CtrV
  k_fill
  intro dp un gd cn cs a ccd cl outer A₀ base h₀ L m news s Q E B F X N T hk hd hu hret
  have hx : (RS r).length ≤ 1000 := by rw [RS_len]; exact hr
  have hn : (RS (nm sl r)).length ≤ (RS r).length := by rw [RS_len, RS_len]; exact nm_len _ r
  refine wpAny_call ?_
  k_dflt ktr_enter
  k_with_none
  k_steps
  all_goals
    first | rw [endW1 (r := r) (by assumption) (by assumption) (by assumption) (by assumption) (by assumption) (by assumption) (by assumption)] | rw [endW2 (r := r) (by assumption) (by assumption) (by assumption) (by assumption) (by assumption) (by assumption)]
    exact retE hret (by k_asm) (by k_asm)
end
section
open PySem.Calls
local macro_rules | `(tactic| walk_at "call type:type") => `(tactic| (k_here; (with_reducible show wpAny _ _ (call (Value.type "type") [Value.bytes _ _]) _ _ _); refine call_type_of (Tx := "bytes") rfl (by decide +kernel) ?_))
local macro_rules | `(tactic| walk_at "call builtin:issubclass") => `(tactic| (k_here; k_dflt (first
  | (refine' issub_SN ?k1 ?k2 ?_; (case k1 => k_asm); (case k2 => k_mem); k_whole)
  | (refine' issub_BN ?k1 ?k2 ?_; (case k1 => k_asm); (case k2 => k_mem); k_whole))))
local macro_rules | `(tactic| walk_at "getMethod bytes") => `(tactic| with_reducible refine RB.m_rfind ?_)
local macro_rules | `(tactic| walk_at "getMethod bytes") => `(tactic| with_reducible refine RB.m_rstrip ?_)
local macro_rules | `(tactic| walk_at "call builtin:bytes.rfind") => `(tactic| refine RB.rfind ?_)
local macro_rules | `(tactic| walk_at "call builtin:bytes.rstrip") => `(tactic| (refine' RB.rstrip ?_ ?kz; (case kz => first | omega | (refine Nat.le_trans (KBc.size_picked_le _ _ _) ?_; omega)); k_whole; intro _ _))
local macro_rules | `(tactic| walk_at "subscriptTail") => `(tactic| (k_here; (with_reducible show wpAny _ _ (subscriptTail _ (Expr.Slice _ _ none _) (Value.bytes _ _) (Value.ref _)) _ _ _); (with_reducible rename Fr _ _ _ _ => F'); (with_reducible rename News _ _ _ _ => N'); (refine' RB.slice (s := ⟨_, _, _, _, _⟩) F' N' ?kl ?ku ?kz ?_; (case kl => constructor); (case ku => constructor); (case kz => first | omega | (refine Nat.le_trans (KBc.size_picked_le _ _ _) ?_; omega)); k_whole); intro _ _ _ _ _))
local macro_rules | `(tactic| walk_at "truthy bytes") => `(tactic| (k_here; (refine' truthy_bytes ?kz ?_; (case kz => first | omega | (refine Nat.le_trans (KBc.size_picked_le _ _ _) ?_; omega)); k_whole)))
local macro_rules | `(tactic| walk_at "call builtin:len") => `(tactic| (k_here; (with_reducible show wpAny _ _ (call (Value.builtin "len") [Value.bytes _ _]) _ _ _); (refine' RB.len ?kz ?_; (case kz => first | omega | (refine Nat.le_trans (KBc.size_picked_le _ _ _) ?_; omega)); k_whole; intro _)))
local macro_rules | `(tactic| walk_at "call ref") => `(tactic| (k_here; (with_reducible show wpAny _ _ (call (Value.ref 101) [Value.str _ _]) _ _ _); k_dflt (refine' useE (c_fspathS _ _) ?k1 ?k2 ?k3 ?k4 ?k5 ?kK ?kd ?ku ?_; (case k1 => k_asm); (case k2 => k_asm); (case k3 => k_asm); (case k4 => k_asm); (case k5 => k_asm); (case kK => first | exact rfl | assumption); (case kd => ktr_room); (case ku => ktr_units); intro t9 h9 tk9 F9 N9; (try dsimp only); (try k_fold))))
local macro_rules | `(tactic| walk_at "call ref") => `(tactic| (k_here; (with_reducible show wpAny _ _ (call (Value.ref 101) [Value.bytes _ _]) _ _ _); k_dflt (refine' useE (c_fspathB _ _) ?k1 ?k2 ?k3 ?k4 ?k5 ?kK ?kd ?ku ?_; (case k1 => k_asm); (case k2 => k_asm); (case k3 => k_asm); (case k4 => k_asm); (case k5 => k_asm); (case kK => first | exact rfl | assumption); (case kd => ktr_room); (case ku => ktr_units); intro t9 h9 tk9 F9 N9; (try dsimp only); (try k_fold))))
local macro_rules | `(tactic| walk_at "call ref") => `(tactic| (k_here; (with_reducible show wpAny _ _ (call (Value.ref 115) [Value.str _ _]) _ _ _); k_dflt (refine' useE (c_get_sepS _ _) ?k1 ?k2 ?k3 ?k4 ?k5 ?kK ?kd ?ku ?_; (case k1 => k_asm); (case k2 => k_asm); (case k3 => k_asm); (case k4 => k_asm); (case k5 => k_asm); (case kK => first | exact rfl | assumption); (case kd => ktr_room); (case ku => ktr_units); intro t9 h9 tk9 F9 N9; (try dsimp only); (try k_fold))))
local macro_rules | `(tactic| walk_at "call ref") => `(tactic| (k_here; (with_reducible show wpAny _ _ (call (Value.ref 115) [Value.bytes _ _]) _ _ _); k_dflt (refine' useE (c_get_sepB _ _) ?k1 ?k2 ?k3 ?k4 ?k5 ?kK ?kd ?ku ?_; (case k1 => k_asm); (case k2 => k_asm); (case k3 => k_asm); (case k4 => k_asm); (case k5 => k_asm); (case kK => first | exact rfl | assumption); (case kd => ktr_room); (case ku => ktr_units); intro t9 h9 tk9 F9 N9; (try dsimp only); (try k_fold))))
local macro_rules | `(tactic| walk_at "call ref") => `(tactic| (k_here; (with_reducible show wpAny _ _ (call (Value.ref 108) [Value.str (RS _) _, Value.str _ _, Value.none, Value.str _ _]) _ _ _); k_dflt (refine' useP (c_splitext0S _ _ _ _ (by first | assumption | exact sem_len_le (by assumption) | omega)) ?k1 ?k2 ?k3 ?k4 ?k5 ?kK ?kd ?ku ?_; (case k1 => k_asm); (case k2 => k_asm); (case k3 => k_asm); (case k4 => k_asm); (case k5 => k_asm); (case kK => first | exact rfl | assumption); (case kd => ktr_room); (case ku => ktr_units); intro r9 ta9 tb9 k9 h9 tk9 F9 N9 l1; (try dsimp only); (try k_fold))))
local macro_rules | `(tactic| walk_at "call ref") => `(tactic| (k_here; (with_reducible show wpAny _ _ (call (Value.ref 108) [Value.bytes (RY _) _, Value.bytes _ _, Value.none, Value.bytes _ _]) _ _ _); k_dflt (refine' useP (c_splitext0B _ _ _ _ (by first | assumption | exact sem_len_le (by assumption) | omega) (by assumption)) ?k1 ?k2 ?k3 ?k4 ?k5 ?kK ?kd ?ku ?_; (case k1 => k_asm); (case k2 => k_asm); (case k3 => k_asm); (case k4 => k_asm); (case k5 => k_asm); (case kK => first | exact rfl | assumption); (case kd => ktr_room); (case ku => ktr_units); intro r9 ta9 tb9 k9 h9 tk9 F9 N9 l1; (try dsimp only); (try k_fold))))
local macro_rules | `(tactic| walk_at "call ref") => `(tactic| (k_here; (with_reducible show wpAny _ _ (call (Value.ref 122) [Value.str (RS _) _]) _ _ _); k_dflt (refine' useP (c_splitextS _ _ (by first | assumption | exact sem_len_le (by assumption) | omega)) ?k1 ?k2 ?k3 ?k4 ?k5 ?kK ?kd ?ku ?_; (case k1 => k_asm); (case k2 => k_asm); (case k3 => k_asm); (case k4 => k_asm); (case k5 => k_asm); (case kK => first | exact rfl | assumption); (case kd => ktr_room); (case ku => ktr_units); intro r9 ta9 tb9 k9 h9 tk9 F9 N9 l1; (try dsimp only); (try k_fold))))
local macro_rules | `(tactic| walk_at "call ref") => `(tactic| (k_here; (with_reducible show wpAny _ _ (call (Value.ref 122) [Value.bytes (RY _) _]) _ _ _); k_dflt (refine' useP (c_splitextB _ _ (by first | assumption | exact sem_len_le (by assumption) | omega) (by assumption)) ?k1 ?k2 ?k3 ?k4 ?k5 ?kK ?kd ?ku ?_; (case k1 => k_asm); (case k2 => k_asm); (case k3 => k_asm); (case k4 => k_asm); (case k5 => k_asm); (case kK => first | exact rfl | assumption); (case kd => ktr_room); (case ku => ktr_units); intro r9 ta9 tb9 k9 h9 tk9 F9 N9 l1; (try dsimp only); (try k_fold))))
local macro_rules | `(tactic| walk_at "call ref") => `(tactic| (k_here; (with_reducible show wpAny _ _ (call (Value.ref 132) [Value.str (RS _) _]) _ _ _); k_dflt (refine' useE (c_basenameS _ _ (by first | assumption | exact sem_len_le (by assumption) | omega)) ?k1 ?k2 ?k3 ?k4 ?k5 ?kK ?kd ?ku ?_; (case k1 => k_asm); (case k2 => k_asm); (case k3 => k_asm); (case k4 => k_asm); (case k5 => k_asm); (case kK => first | exact rfl | assumption); (case kd => ktr_room); (case ku => ktr_units); intro t9 h9 tk9 F9 N9; (try dsimp only); (try k_fold))))
local macro_rules | `(tactic| walk_at "call ref") => `(tactic| (k_here; (with_reducible show wpAny _ _ (call (Value.ref 132) [Value.bytes (RY _) _]) _ _ _); k_dflt (refine' useE (c_basenameB _ _ (by first | assumption | exact sem_len_le (by assumption) | omega) (by assumption)) ?k1 ?k2 ?k3 ?k4 ?k5 ?kK ?kd ?ku ?_; (case k1 => k_asm); (case k2 => k_asm); (case k3 => k_asm); (case k4 => k_asm); (case k5 => k_asm); (case kK => first | exact rfl | assumption); (case kd => ktr_room); (case ku => ktr_units); intro t9 h9 tk9 F9 N9; (try dsimp only); (try k_fold))))
local macro_rules | `(tactic| walk_at "call ref") => `(tactic| (k_here; (with_reducible show wpAny _ _ (call (Value.ref 139) [Value.str (RS _) _]) _ _ _); k_dflt (refine' useE (c_dirnameS _ _ (by first | assumption | exact sem_len_le (by assumption) | omega)) ?k1 ?k2 ?k3 ?k4 ?k5 ?kK ?kd ?ku ?_; (case k1 => k_asm); (case k2 => k_asm); (case k3 => k_asm); (case k4 => k_asm); (case k5 => k_asm); (case kK => first | exact rfl | assumption); (case kd => ktr_room); (case ku => ktr_units); intro t9 h9 tk9 F9 N9; (try dsimp only); (try k_fold))))
local macro_rules | `(tactic| walk_at "call ref") => `(tactic| (k_here; (with_reducible show wpAny _ _ (call (Value.ref 139) [Value.bytes (RY _) _]) _ _ _); k_dflt (refine' useE (c_dirnameB _ _ (by first | assumption | exact sem_len_le (by assumption) | omega) (by assumption)) ?k1 ?k2 ?k3 ?k4 ?k5 ?kK ?kd ?ku ?_; (case k1 => k_asm); (case k2 => k_asm); (case k3 => k_asm); (case k4 => k_asm); (case k5 => k_asm); (case kK => first | exact rfl | assumption); (case kd => ktr_room); (case ku => ktr_units); intro t9 h9 tk9 F9 N9; (try dsimp only); (try k_fold))))
local macro_rules | `(tactic| walk_at "call ref") => `(tactic| (k_here; (with_reducible show wpAny _ _ (call (Value.ref 185) [Value.str (RS _) _]) _ _ _); k_dflt (refine' useE (c_name _ _ (by first | assumption | exact sem_len_le (by assumption) | omega)) ?k1 ?k2 ?k3 ?k4 ?k5 ?kK ?kd ?ku ?_; (case k1 => k_asm); (case k2 => k_asm); (case k3 => k_asm); (case k4 => k_asm); (case k5 => k_asm); (case kK => first | exact rfl | assumption); (case kd => ktr_room); (case ku => ktr_units); intro t9 h9 tk9 F9 N9; (try dsimp only); (try k_fold))))
local macro_rules | `(tactic| walk_at "call ref") => `(tactic| (k_here; (with_reducible show wpAny _ _ (call (Value.ref 192) [Value.str (RS _) _]) _ _ _); k_dflt (refine' useE (c_head _ _ (by first | assumption | exact sem_len_le (by assumption) | omega)) ?k1 ?k2 ?k3 ?k4 ?k5 ?kK ?kd ?ku ?_; (case k1 => k_asm); (case k2 => k_asm); (case k3 => k_asm); (case k4 => k_asm); (case k5 => k_asm); (case kK => first | exact rfl | assumption); (case kd => ktr_room); (case ku => ktr_units); intro t9 h9 tk9 F9 N9; (try dsimp only); (try k_fold))))
local macro_rules | `(tactic| walk_at "call ref") => `(tactic| (k_here; (with_reducible show wpAny _ _ (call (Value.ref 199) [Value.str (RS _) _]) _ _ _); k_dflt (refine' useE (c_ending _ _ (by first | assumption | exact sem_len_le (by assumption) | omega)) ?k1 ?k2 ?k3 ?k4 ?k5 ?kK ?kd ?ku ?_; (case k1 => k_asm); (case k2 => k_asm); (case k3 => k_asm); (case k4 => k_asm); (case k5 => k_asm); (case kK => first | exact rfl | assumption); (case kd => ktr_room); (case ku => ktr_units); intro t9 h9 tk9 F9 N9; (try dsimp only); (try k_fold))))
local macro_rules | `(tactic| walk_at "StopDown") => `(tactic| exact stop_down_le_and)
set_option maxRecDepth 100000 in
set_option maxHeartbeats 8000000 in
theorem c_twin {w mean mg mb} (k : Nat) (r : List Nat) (t t₂ : Tok) (hr : r.length ≤ 1000) (hk4 : k = 66 ∨ k = 68 ∨ k = 69 ∨ k = 83) : CtrV w mean mg mb 206 3 30 [.str ⟨#[k]⟩ t₂, .str (RS r) t] (fun R => R = fun t => .str (RS (deed k r)) t) := by
  w_top off
  k_with_none
  unfold CtrV
  k_fill
  intro dp un gd cn cs a ccd cl outer A₀ base h₀ L m news s Q E B F X N T hk hd hu hret
  have hx : (RS r).length ≤ 1000 := by rw [RS_len]; exact hr
  have hn : (RS (en sl dt r)).length ≤ (RS r).length := by rw [RS_len, RS_len]; exact en_len' _ _ r
  refine wpAny_call ?_
  k_dflt ktr_enter
  k_with_none
  k_steps
  all_goals
    (try rw [twinS])
    first | rw [deedB (k := k) (r := r) (by assumption)] | rw [deedD (k := k) (r := r) (by assumption)] | rw [deedE (k := k) (r := r) (by assumption)] | rw [deedS (k := k) (r := r) hk4 (by assumption) (by assumption) (by assumption)]
    exact retE hret (by k_asm) (by first | k_asm | (refine' sub_of ?kN ?kS; (case kN => assumption); (case kS => kcj_all)))
end
section
open PySem.Calls
section
variable {prog : Program} {w : World} {A : Around} {E : Value → Shared → Prop} {s : Shared} {h₀ : Heap} {L : Addr} {m : Str → Option Value} {env : Env}
open LCg in
/-- the turns of a comprehension over a text, each giving the sign's number -/
theorem sg_rest {elt : Expr} {x : Str} {scope : Scope} {cl : List (Str × Addr)} {sx : Str} {news : List (Addr × Obj)} {Fin : List Value → List (Addr × Obj) → Prop}
    (turn : ∀ (c : Nat) t I oI C oC D m₂ ys h tk (E' : Value → Shared → Prop), NsObj oC m₂ → m₂ x = some (.str ⟨#[c]⟩ t) → Fr h₀ L h m → News h₀ L h ((I, oI) :: (C, oC) :: (D, lst ys) :: news) →
      wpAny (model prog w) A (eval elt (compEnvC scope cl C env)) (fun y s₂ => ∃ u k, y = .int (c : Int) u ∧ s₂ = { s with heap := h, toks := k }) E' { s with heap := h, toks := tk })
    (fin : ∀ ys, IntsAre ys (KStt.codes sx) → Fin ys news) : ∀ (j i : Nat) (ys : List Value), i + j = sx.cps.size → IntsAre ys ((KStt.codes sx).take i) →
      CompRest prog w A h₀ L m env elt x scope cl s (fun _ => True) (SignAt sx) Fin j i ys news
  | 0, i, ys, hi, hy => by
    have e : (KStt.codes sx).length = i := by rw [KStt.codes_length]; show sx.cps.size = i; omega
    rw [← e, List.take_length] at hy
    exact CompRest.zero (fin ys hy)
  | j + 1, i, ys, hi, hy => by
    refine CompRest.succ ?_
    intro v I oI C oC D m₂ h tk E' hv hC hx F N off ne
    obtain ⟨c, t, hc, rfl⟩ := hv
    refine wpAny_mono (turn c t I oI C oC D m₂ ys h tk E' hC hx F N) (fun y s₂ hq => ?_) fun _ _ e => e
    obtain ⟨u, k, rfl, rfl⟩ := hq
    refine ⟨h, k, news, rfl, F, N, off, trivial, ?_⟩
    refine sg_rest turn fin j (i + 1) _ (by omega) ?_
    have hc' := KStt.code_at hc
    rw [List.take_add_one, hc']
    exact hy.append (.cons _ _ .nil)
open LCg in
theorem ListComp_Sg {elt iter : Expr} {x : Str} {px : Pos} {scope : Scope} {cl : List (Str × Addr)} {pos : Pos} {Q : Value → Shared → Prop} {sx : Str} {tx : Tok} {news : List (Addr × Obj)} (hh : A.handled = none)
    (hclos : closureFor scope env = pure cl) (hcell : ∀ y ∈ scope.names, y.2 ≠ .cell) (hkind : scope.kind = .function)
    (hnames : ∀ y ∈ scope.names, y.2 = .local → scope.names.lookup y.1 = some .local) (hx : scope.names.lookup x = some .local)
    (F : Fr h₀ L s.heap m) (N : News h₀ L s.heap news) (hsz : sx.length ≤ sizeLine)
    (hi : wpAny (model prog w) A (eval iter env) (fun v s₁ => v = .str sx tx ∧ s₁ = s) E s)
    (turn : ∀ (c : Nat) t I oI C oC D m₂ ys h tk (E' : Value → Shared → Prop), NsObj oC m₂ → m₂ x = some (.str ⟨#[c]⟩ t) → Fr h₀ L h m → News h₀ L h ((I, oI) :: (C, oC) :: (D, lst ys) :: news) →
      wpAny (model prog w) A (eval elt (compEnvC scope cl C env)) (fun y s₂ => ∃ u k, y = .int (c : Int) u ∧ s₂ = { s with heap := h, toks := k }) E' { s with heap := h, toks := tk })
    (fin : ∀ D h tk ys, Fr h₀ L h m → News h₀ L h ((D, lst ys) :: news) → IntsAre ys (KStt.codes sx) → Q (.ref D) { s with heap := h, toks := tk })
    (hs : ∀ x, foldedSetIterable iter env x = pure x := by intro _; rfl) :
    wpAny (model prog w) A (eval (.ListComp elt [⟨.Name x px, iter, [], 0⟩] scope pos) env) Q E s := by
  rw [eval_ListComp]
  refine wpAny_comprehension_free (use := none) rfl hs hclos hkind hnames (wpAny_mono hi (fun xv s₁ h₁ => ?_) fun _ _ e => e)
  obtain ⟨rfl, e₁⟩ := h₁
  subst e₁
  have up : ∀ (o : Obj), ∀ b o', s₁.heap.get? b = some o' → (s₁.heap.push o).get? b = some o' := fun o b o' e => Heap.get?_push_of_some _ e
  have go : ∀ (ty : String) (o : Obj) (St : Nat → Heap → Prop), (St = fun i h => h.IsStrIter s₁.heap.objs.size ty sx tx i) → Walks prog w A s₁.heap.objs.size [s₁.heap.objs.size] [s₁.heap.objs.size] sx.cps.size (SignAt sx) St → St 0 (s₁.heap.push o) →
      wpAny (model prog w) A (newList []) (fun acc s₃ => wpAny (model prog w) A (newFunctionEnv scope env.globals cl [] env.qual none .none (some env)) (fun cenv s₄ =>
        codeAny (model prog w) A (.compStart (.ListComp elt [⟨.Name x px, iter, [], 0⟩] scope pos) 0 (.ref s₁.heap.objs.size) acc { cenv with scope := relabel scope env }) (compPost (model prog w) A E none Q acc cenv.locals) s₄) E s₃) E { s₁ with heap := s₁.heap.push o } := by
    intro ty o St hSt W hst
    subst hSt
    refine block_U (S := fun _ => True) (Fin := fun ys news' => news' = news ∧ IntsAre ys (KStt.codes sx)) W hsz (fun i h st => by obtain ⟨o', e', _⟩ := st; exact ⟨o', e'⟩) (fun i h h' o' nw st e e' _ _ _ => ?_) hcell hkind hx hst (fun b hb => ?_)
      (F.keeps (up o)) (fun p hp => ⟨up o _ _ (N p hp).1, (N p hp).2⟩) (Nat.ne_of_lt F.ns.lt) (next_is_new F) (fun p hp => Nat.ne_of_lt (Heap.lt_size (N p hp).1)) trivial ?_ ?_
    · exact W.frame i h h' st fun b hb o'' e'' => by
        rw [List.mem_singleton.mp hb] at e'' ⊢
        rw [e'] ; rw [e] at e''; exact e''
    · rw [List.mem_singleton.mp hb]
      show s₁.heap.objs.size < (s₁.heap.push _).objs.size
      rw [Heap.size_push]; exact Nat.lt_succ_self _
    · exact sg_rest (s := { s₁ with heap := s₁.heap.push o }) (fun c t I oI C oC D m₂ ys h tk E' hC hx F N => turn c t I oI C oC D m₂ ys h tk E' hC hx F N) (fun ys hy => ⟨rfl, hy⟩) sx.cps.size 0 [] (by omega) .nil
    · intro D C h tk m' ys news' F' N' o1 hn hC₀ hD₀ hCL hDL hCD offC fin'
      obtain ⟨rfl, hy⟩ := fin'
      refine ⟨m', hn, fun h'' hs'' => fin D h'' tk ys (F'.change hs'' hCL hC₀) (fun p hp => ?_) hy⟩
      refine ⟨hs''.extBut _ _ ?_ (N' p hp).1, (N' p hp).2⟩
      rcases List.mem_cons.mp hp with rfl | hp
      · exact Ne.symm hCD
      · exact offC p hp
  cases ha : sx.cps.all (· < 128)
  · exact wpAny_pyIter_wide ha (go _ { cls := .type "str_iterator", data := .fields #[.str sx tx, .int 0 0] } _ rfl (Walks.strWide hh _ sx tx) ⟨_, Heap.get?_push_size _ rfl, rfl, rfl⟩)
  · exact wpAny_pyIter_ascii ha (go _ { cls := .type "str_ascii_iterator", data := .fields #[.str sx tx, .int 0 0] } _ rfl (Walks.strAscii hh _ sx tx) ⟨_, Heap.get?_push_size _ rfl, rfl, rfl⟩)
end
end
section
open PySem.Calls
section
variable {prog : Program} {w : World} {A : Around} {E : Value → Shared → Prop} {s : Shared} {h₀ : Heap} {L D : Addr} {m : Str → Option Value} {news : List (Addr × Obj)}
theorem make_RY {r : List Nat} {ys : List Value} {Q : Value → Shared → Prop} (F : Fr h₀ L s.heap m) (N : News h₀ L s.heap ((D, LCg.lst ys) :: news)) (hh : A.handled = none) (hi : IntsAre ys (KStt.codes (RS r))) (ho : Oct r) (hr : r.length ≤ 1000)
    (h : ∀ h' t' k, Fr h₀ L h' m → News h₀ L h' ((D, LCg.lst ys) :: news) → Q (.bytes (RY r) t') { s with heap := h', toks := k }) : wpAny (model prog w) A (call (.type "bytes") [.ref D]) Q E s := by
  have hl : s.heap.IsList D ys.toArray := ⟨_, (N _ (.head _)).1, rfl, _, rfl⟩
  refine bytes_K F N hl hi (fun n hn => ?_) ?_ hh fun h' t k F' N' _ => ?_
  · unfold KStt.codes at hn
    obtain ⟨c, hc, rfl⟩ := List.mem_map.mp hn
    have := ho c (List.mem_reverse.mp hc)
    omega
  · have := hi.length
    rw [KStt.codes_length, RS_len] at this
    rw [sizeLine_eq]
    omega
  · have e : ((KStt.codes (RS r)).map fun n => n.toNat.toUInt8).toArray = RY r := by
      unfold KStt.codes RY
      rw [List.map_map, RS_list]
      rfl
    rw [e]
    exact h h' t k F' N'
end
theorem done_len {l : List Nat} : (downKs (((W l).length : Int) - 1) (((W l).length : Int) - 1 - -1).toNat).length = l.length := by
  rw [downKs_length, W_len]
  omega
theorem done_end {l r : List Nat} {x : Str} (h : x = RS (sem (l.drop (l.length - (downKs (((W l).length : Int) - 1) (((W l).length : Int) - 1 - -1).toNat).length)) r)) : x = RS (sem l r) := by
  rw [h, done_len, Nat.sub_self, List.drop_zero]
theorem done_endY {l r : List Nat} {x : Array UInt8} (h : x = RY (sem (l.drop (l.length - (downKs (((W l).length : Int) - 1) (((W l).length : Int) - 1 - -1).toNat).length)) r)) : x = RY (sem l r) := by
  rw [h, done_len, Nat.sub_self, List.drop_zero]
theorem done_startY {l r : List Nat} : ([] : List Int).length ≤ l.length ∧ RY r = RY (sem (l.drop (l.length - ([] : List Int).length)) r) := by
  refine ⟨Nat.zero_le _, ?_⟩
  rw [List.length_nil, Nat.sub_zero, List.drop_length]
  rfl
theorem done_turnY {l r : List Nat} {pre : List Int} {k : Int} (e : k = ((W l).length : Int) - 1 - (pre.length : Int)) (h : pre.length < (((W l).length : Int) - 1 - -1).toNat) :
    (pre ++ [k]).length ≤ l.length ∧ RY (deed (l.getD k.toNat 0) (sem (l.drop (l.length - pre.length)) r)) = RY (sem (l.drop (l.length - (pre ++ [k]).length)) r) := by
  have e' := e
  rw [W_len] at h e'
  rw [List.length_append, List.length_singleton]
  refine ⟨by omega, ?_⟩
  rw [sem_turn e (by omega)]
theorem Z_yes : (W [90] == Str.ofString "Z") = true := by decide +kernel
theorem abs_nn (x : Int) : 0 ≤ (if x < 0 then -x else x) := by split <;> omega
theorem fdiv_nn {x k : Int} (h : 0 ≤ x) (hk : 0 ≤ k) : 0 ≤ x.fdiv k := by rw [Int.fdiv_eq_ediv_of_nonneg _ hk]; exact Int.ediv_nonneg h hk
theorem fmod_nn {x k : Int} (hk : 0 < k) : 0 ≤ x.fmod k ∧ x.fmod k < k := by
  rw [Int.fmod_eq_emod_of_nonneg _ (Int.le_of_lt hk)]
  exact ⟨Int.emod_nonneg _ (by omega), Int.emod_lt_of_pos _ hk⟩
theorem W_app (a b : List Nat) : W a ++ W b = W (a ++ b) := by
  refine PySem.Str.ext' (Array.toList_inj.mp ?_)
  rw [PySem.Str.cps_append, Array.toList_append]
  simp [W]
theorem word_start (x : Int) : 0 ≤ (if x < 0 then -x else x).fdiv 11 ∧ (Str.ofString "").length = ([] : List Int).length ∧ ∃ l, Letters l ∧ Str.ofString "" = W l :=
  ⟨fdiv_nn (abs_nn x) (by omega), by decide +kernel, [], fun _ h => (nomatch h), by decide +kernel⟩
theorem BDES_item {k : Int} (h0 : 0 ≤ k) (h1 : k < 4) : ∃ c, (c = 66 ∨ c = 68 ∨ c = 69 ∨ c = 83) ∧ Txt.item (Str.ofString "BDES") k = W [c] := by
  have hB : Str.ofString "BDES" = W [66, 68, 69, 83] := by decide +kernel
  obtain ⟨c, hc, he⟩ := W_item (w := [66, 68, 69, 83]) h0 (by simpa using h1)
  refine ⟨c, ?_, by rw [hB, he]; rfl⟩
  have := List.mem_of_getElem? hc
  simpa using this
theorem word_turn {y k : Int} {word : Str} {pre : List Int} (h0 : 0 ≤ y) (h1 : word.length = pre.length) (h2 : ∃ l, Letters l ∧ word = W l) :
    0 ≤ y.fdiv 4 ∧ (word ++ Txt.item (Str.ofString "BDES") (y.fmod 4)).length = (pre ++ [k]).length ∧ ∃ l, Letters l ∧ word ++ Txt.item (Str.ofString "BDES") (y.fmod 4) = W l := by
  obtain ⟨l, hl, rfl⟩ := h2
  obtain ⟨c, hc, he⟩ := BDES_item (fmod_nn (x := y) (k := 4) (by omega)).1 (fmod_nn (x := y) (k := 4) (by omega)).2
  rw [he, W_app]
  rw [W_len] at h1
  refine ⟨fdiv_nn h0 (by omega), ?_, l ++ [c], fun d hd => ?_, rfl⟩
  · rw [W_len, List.length_append, List.length_append, h1]
    rfl
  · rcases List.mem_append.mp hd with h | h
    · exact hl d h
    · rw [List.mem_singleton.mp h]; exact hc
theorem word_end {n : Int} {word : Str} (h1 : word.length = (rangeKs 0 (n - 0).toNat).length) (h2 : ∃ l, Letters l ∧ word = W l) (h11 : 0 ≤ n ∧ n < 11) : ∃ l, Letters l ∧ l.length ≤ 10 ∧ (fun t : Tok => Value.str word t) = fun t => .str (W l) t := by
  obtain ⟨l, hl, rfl⟩ := h2
  refine ⟨l, hl, ?_, rfl⟩
  rw [W_len, rangeKs_length] at h1
  omega
theorem retV {h₀ : Heap} {L : Addr} {m : Str → Option Value} {news : List (Addr × Obj)} {s : Shared} {Q : Value → Shared → Prop} {P : (Tok → Value) → Prop} (hret : ∀ R, P R → ∀ t h' tk', Fr h₀ L h' m → News h₀ L h' news → Q (R t) { s with heap := h', toks := tk' })
    {x : Str} {t : Tok} {h' : Heap} {tk' : Nat} (hp : P fun t => .str x t) (F : Fr h₀ L h' m) (N : News h₀ L h' news) : Q (.str x t) { s with heap := h', toks := tk' } := hret _ hp t h' tk' F N
abbrev Piece (p : Str) : Prop := p.length ≤ 7 ∧ ∀ c ∈ p.cps.toList, c < 256
theorem path_start (x : Int) : 0 ≤ (if x < 0 then -x else x) ∧ ([] : List Str).length = ([] : List Int).length ∧ ∀ p ∈ ([] : List Str), Piece p :=
  ⟨abs_nn x, rfl, fun _ h => nomatch h⟩
abbrev PTab : List Str := [Str.ofString "a", Str.ofString "a.b", Str.ofString "a.b.c", Str.ofString ".a", Str.ofString ".a.b", Str.ofString "..a.b.c", Str.ofString "a.", Str.ofString "", Str.ofString ".", Str.ofString "..", Str.ofString "a..b"]
theorem ptab_ok : ∀ p ∈ PTab, Piece p := by decide +kernel
theorem piece_empty : Piece Str.empty := by decide +kernel
theorem ptab_piece (i : Nat) : Piece (PTab.getD i Str.empty) := by
  rw [List.getD_eq_getElem?_getD]
  cases h : PTab[i]? with
  | none => exact piece_empty
  | some p => exact ptab_ok p (List.mem_of_getElem? h)
theorem snoc_pieces {ps : List Str} {p : Str} (h : ∀ q ∈ ps, Piece q) (hp : Piece p) : ∀ q ∈ ps ++ [p], Piece q := fun q hq => by
  rcases List.mem_append.mp hq with h' | h'
  · exact h q h'
  · rw [List.mem_singleton.mp h']; exact hp
theorem path_turn {y k : Int} {ps : List Str} {p : Str} {pre : List Int} (h0 : 0 ≤ y) (h1 : ps.length = pre.length) (h2 : ∀ q ∈ ps, Piece q) (hp : Piece p) :
    0 ≤ y ∧ (ps ++ [p]).length = (pre ++ [k]).length ∧ ∀ q ∈ ps ++ [p], Piece q :=
  ⟨h0, by rw [List.length_append, List.length_append, h1]; rfl, snoc_pieces h2 hp⟩
theorem two_piece {a b : Int} : Piece ((⟨#[(a.fmod 256).toNat]⟩ : Str) ++ Str.ofString "." ++ ⟨#[(b.fmod 256).toNat]⟩) := by
  have ha := fmod_nn (x := a) (k := 256) (by omega)
  have hb := fmod_nn (x := b) (k := 256) (by omega)
  have e : ((⟨#[(a.fmod 256).toNat]⟩ : Str) ++ Str.ofString "." ++ ⟨#[(b.fmod 256).toNat]⟩) = W [(a.fmod 256).toNat, 46, (b.fmod 256).toNat] := by
    rw [dot_eq]
    show W [(a.fmod 256).toNat] ++ W [46] ++ W [(b.fmod 256).toNat] = _
    rw [W_app, W_app]
    rfl
  rw [e]
  refine ⟨by rw [W_len]; simp, fun c hc => ?_⟩
  have hc' : c ∈ [(a.fmod 256).toNat, 46, (b.fmod 256).toNat] := hc
  simp only [List.mem_cons, List.not_mem_nil, or_false] at hc'
  rcases hc' with rfl | rfl | rfl <;> omega
end
section
open PySem.Calls
local macro_rules | `(tactic| walk_at "call type:type") => `(tactic| (k_here; (with_reducible show wpAny _ _ (call (Value.type "type") [Value.bytes _ _]) _ _ _); refine call_type_of (Tx := "bytes") rfl (by decide +kernel) ?_))
local macro_rules | `(tactic| walk_at "call builtin:issubclass") => `(tactic| (k_here; k_dflt (first
  | (refine' issub_SN ?k1 ?k2 ?_; (case k1 => k_asm); (case k2 => k_mem); k_whole)
  | (refine' issub_BN ?k1 ?k2 ?_; (case k1 => k_asm); (case k2 => k_mem); k_whole))))
local macro_rules | `(tactic| walk_at "getMethod bytes") => `(tactic| with_reducible refine RB.m_rfind ?_)
local macro_rules | `(tactic| walk_at "getMethod bytes") => `(tactic| with_reducible refine RB.m_rstrip ?_)
local macro_rules | `(tactic| walk_at "call builtin:bytes.rfind") => `(tactic| refine RB.rfind ?_)
local macro_rules | `(tactic| walk_at "call builtin:bytes.rstrip") => `(tactic| (refine' RB.rstrip ?_ ?kz; (case kz => first | omega | (refine Nat.le_trans (KBc.size_picked_le _ _ _) ?_; omega)); k_whole; intro _ _))
local macro_rules | `(tactic| walk_at "subscriptTail") => `(tactic| (k_here; (with_reducible show wpAny _ _ (subscriptTail _ (Expr.Slice _ _ none _) (Value.bytes _ _) (Value.ref _)) _ _ _); (with_reducible rename Fr _ _ _ _ => F'); (with_reducible rename News _ _ _ _ => N'); (refine' RB.slice (s := ⟨_, _, _, _, _⟩) F' N' ?kl ?ku ?kz ?_; (case kl => constructor); (case ku => constructor); (case kz => first | omega | (refine Nat.le_trans (KBc.size_picked_le _ _ _) ?_; omega)); k_whole); intro _ _ _ _ _))
local macro_rules | `(tactic| walk_at "truthy bytes") => `(tactic| (k_here; (refine' truthy_bytes ?kz ?_; (case kz => first | omega | (refine Nat.le_trans (KBc.size_picked_le _ _ _) ?_; omega)); k_whole)))
local macro_rules | `(tactic| walk_at "call builtin:len") => `(tactic| (k_here; (with_reducible show wpAny _ _ (call (Value.builtin "len") [Value.bytes _ _]) _ _ _); (refine' RB.len ?kz ?_; (case kz => first | omega | (refine Nat.le_trans (KBc.size_picked_le _ _ _) ?_; omega)); k_whole; intro _)))
local macro_rules | `(tactic| walk_at "call ref") => `(tactic| (k_here; (with_reducible show wpAny _ _ (call (Value.ref 101) [Value.str _ _]) _ _ _); k_dflt (refine' useE (c_fspathS _ _) ?k1 ?k2 ?k3 ?k4 ?k5 ?kK ?kd ?ku ?_; (case k1 => k_asm); (case k2 => k_asm); (case k3 => k_asm); (case k4 => k_asm); (case k5 => k_asm); (case kK => first | exact rfl | assumption); (case kd => ktr_room); (case ku => ktr_units); intro t9 h9 tk9 F9 N9; (try dsimp only); (try k_fold))))
local macro_rules | `(tactic| walk_at "call ref") => `(tactic| (k_here; (with_reducible show wpAny _ _ (call (Value.ref 101) [Value.bytes _ _]) _ _ _); k_dflt (refine' useE (c_fspathB _ _) ?k1 ?k2 ?k3 ?k4 ?k5 ?kK ?kd ?ku ?_; (case k1 => k_asm); (case k2 => k_asm); (case k3 => k_asm); (case k4 => k_asm); (case k5 => k_asm); (case kK => first | exact rfl | assumption); (case kd => ktr_room); (case ku => ktr_units); intro t9 h9 tk9 F9 N9; (try dsimp only); (try k_fold))))
local macro_rules | `(tactic| walk_at "call ref") => `(tactic| (k_here; (with_reducible show wpAny _ _ (call (Value.ref 115) [Value.str _ _]) _ _ _); k_dflt (refine' useE (c_get_sepS _ _) ?k1 ?k2 ?k3 ?k4 ?k5 ?kK ?kd ?ku ?_; (case k1 => k_asm); (case k2 => k_asm); (case k3 => k_asm); (case k4 => k_asm); (case k5 => k_asm); (case kK => first | exact rfl | assumption); (case kd => ktr_room); (case ku => ktr_units); intro t9 h9 tk9 F9 N9; (try dsimp only); (try k_fold))))
local macro_rules | `(tactic| walk_at "call ref") => `(tactic| (k_here; (with_reducible show wpAny _ _ (call (Value.ref 115) [Value.bytes _ _]) _ _ _); k_dflt (refine' useE (c_get_sepB _ _) ?k1 ?k2 ?k3 ?k4 ?k5 ?kK ?kd ?ku ?_; (case k1 => k_asm); (case k2 => k_asm); (case k3 => k_asm); (case k4 => k_asm); (case k5 => k_asm); (case kK => first | exact rfl | assumption); (case kd => ktr_room); (case ku => ktr_units); intro t9 h9 tk9 F9 N9; (try dsimp only); (try k_fold))))
local macro_rules | `(tactic| walk_at "call ref") => `(tactic| (k_here; (with_reducible show wpAny _ _ (call (Value.ref 108) [Value.str (RS _) _, Value.str _ _, Value.none, Value.str _ _]) _ _ _); k_dflt (refine' useP (c_splitext0S _ _ _ _ (by first | assumption | exact sem_len_le (by assumption) | omega)) ?k1 ?k2 ?k3 ?k4 ?k5 ?kK ?kd ?ku ?_; (case k1 => k_asm); (case k2 => k_asm); (case k3 => k_asm); (case k4 => k_asm); (case k5 => k_asm); (case kK => first | exact rfl | assumption); (case kd => ktr_room); (case ku => ktr_units); intro r9 ta9 tb9 k9 h9 tk9 F9 N9 l1; (try dsimp only); (try k_fold))))
local macro_rules | `(tactic| walk_at "call ref") => `(tactic| (k_here; (with_reducible show wpAny _ _ (call (Value.ref 108) [Value.bytes (RY _) _, Value.bytes _ _, Value.none, Value.bytes _ _]) _ _ _); k_dflt (refine' useP (c_splitext0B _ _ _ _ (by first | assumption | exact sem_len_le (by assumption) | omega) (by assumption)) ?k1 ?k2 ?k3 ?k4 ?k5 ?kK ?kd ?ku ?_; (case k1 => k_asm); (case k2 => k_asm); (case k3 => k_asm); (case k4 => k_asm); (case k5 => k_asm); (case kK => first | exact rfl | assumption); (case kd => ktr_room); (case ku => ktr_units); intro r9 ta9 tb9 k9 h9 tk9 F9 N9 l1; (try dsimp only); (try k_fold))))
local macro_rules | `(tactic| walk_at "call ref") => `(tactic| (k_here; (with_reducible show wpAny _ _ (call (Value.ref 122) [Value.str (RS _) _]) _ _ _); k_dflt (refine' useP (c_splitextS _ _ (by first | assumption | exact sem_len_le (by assumption) | omega)) ?k1 ?k2 ?k3 ?k4 ?k5 ?kK ?kd ?ku ?_; (case k1 => k_asm); (case k2 => k_asm); (case k3 => k_asm); (case k4 => k_asm); (case k5 => k_asm); (case kK => first | exact rfl | assumption); (case kd => ktr_room); (case ku => ktr_units); intro r9 ta9 tb9 k9 h9 tk9 F9 N9 l1; (try dsimp only); (try k_fold))))
local macro_rules | `(tactic| walk_at "call ref") => `(tactic| (k_here; (with_reducible show wpAny _ _ (call (Value.ref 122) [Value.bytes (RY _) _]) _ _ _); k_dflt (refine' useP (c_splitextB _ _ (by first | assumption | exact sem_len_le (by assumption) | omega) (by assumption)) ?k1 ?k2 ?k3 ?k4 ?k5 ?kK ?kd ?ku ?_; (case k1 => k_asm); (case k2 => k_asm); (case k3 => k_asm); (case k4 => k_asm); (case k5 => k_asm); (case kK => first | exact rfl | assumption); (case kd => ktr_room); (case ku => ktr_units); intro r9 ta9 tb9 k9 h9 tk9 F9 N9 l1; (try dsimp only); (try k_fold))))
local macro_rules | `(tactic| walk_at "call ref") => `(tactic| (k_here; (with_reducible show wpAny _ _ (call (Value.ref 132) [Value.str (RS _) _]) _ _ _); k_dflt (refine' useE (c_basenameS _ _ (by first | assumption | exact sem_len_le (by assumption) | omega)) ?k1 ?k2 ?k3 ?k4 ?k5 ?kK ?kd ?ku ?_; (case k1 => k_asm); (case k2 => k_asm); (case k3 => k_asm); (case k4 => k_asm); (case k5 => k_asm); (case kK => first | exact rfl | assumption); (case kd => ktr_room); (case ku => ktr_units); intro t9 h9 tk9 F9 N9; (try dsimp only); (try k_fold))))
local macro_rules | `(tactic| walk_at "call ref") => `(tactic| (k_here; (with_reducible show wpAny _ _ (call (Value.ref 132) [Value.bytes (RY _) _]) _ _ _); k_dflt (refine' useE (c_basenameB _ _ (by first | assumption | exact sem_len_le (by assumption) | omega) (by assumption)) ?k1 ?k2 ?k3 ?k4 ?k5 ?kK ?kd ?ku ?_; (case k1 => k_asm); (case k2 => k_asm); (case k3 => k_asm); (case k4 => k_asm); (case k5 => k_asm); (case kK => first | exact rfl | assumption); (case kd => ktr_room); (case ku => ktr_units); intro t9 h9 tk9 F9 N9; (try dsimp only); (try k_fold))))
local macro_rules | `(tactic| walk_at "call ref") => `(tactic| (k_here; (with_reducible show wpAny _ _ (call (Value.ref 139) [Value.str (RS _) _]) _ _ _); k_dflt (refine' useE (c_dirnameS _ _ (by first | assumption | exact sem_len_le (by assumption) | omega)) ?k1 ?k2 ?k3 ?k4 ?k5 ?kK ?kd ?ku ?_; (case k1 => k_asm); (case k2 => k_asm); (case k3 => k_asm); (case k4 => k_asm); (case k5 => k_asm); (case kK => first | exact rfl | assumption); (case kd => ktr_room); (case ku => ktr_units); intro t9 h9 tk9 F9 N9; (try dsimp only); (try k_fold))))
local macro_rules | `(tactic| walk_at "call ref") => `(tactic| (k_here; (with_reducible show wpAny _ _ (call (Value.ref 139) [Value.bytes (RY _) _]) _ _ _); k_dflt (refine' useE (c_dirnameB _ _ (by first | assumption | exact sem_len_le (by assumption) | omega) (by assumption)) ?k1 ?k2 ?k3 ?k4 ?k5 ?kK ?kd ?ku ?_; (case k1 => k_asm); (case k2 => k_asm); (case k3 => k_asm); (case k4 => k_asm); (case k5 => k_asm); (case kK => first | exact rfl | assumption); (case kd => ktr_room); (case ku => ktr_units); intro t9 h9 tk9 F9 N9; (try dsimp only); (try k_fold))))
local macro_rules | `(tactic| walk_at "call ref") => `(tactic| (k_here; (with_reducible show wpAny _ _ (call (Value.ref 185) [Value.str (RS _) _]) _ _ _); k_dflt (refine' useE (c_name _ _ (by first | assumption | exact sem_len_le (by assumption) | omega)) ?k1 ?k2 ?k3 ?k4 ?k5 ?kK ?kd ?ku ?_; (case k1 => k_asm); (case k2 => k_asm); (case k3 => k_asm); (case k4 => k_asm); (case k5 => k_asm); (case kK => first | exact rfl | assumption); (case kd => ktr_room); (case ku => ktr_units); intro t9 h9 tk9 F9 N9; (try dsimp only); (try k_fold))))
local macro_rules | `(tactic| walk_at "call ref") => `(tactic| (k_here; (with_reducible show wpAny _ _ (call (Value.ref 192) [Value.str (RS _) _]) _ _ _); k_dflt (refine' useE (c_head _ _ (by first | assumption | exact sem_len_le (by assumption) | omega)) ?k1 ?k2 ?k3 ?k4 ?k5 ?kK ?kd ?ku ?_; (case k1 => k_asm); (case k2 => k_asm); (case k3 => k_asm); (case k4 => k_asm); (case k5 => k_asm); (case kK => first | exact rfl | assumption); (case kd => ktr_room); (case ku => ktr_units); intro t9 h9 tk9 F9 N9; (try dsimp only); (try k_fold))))
local macro_rules | `(tactic| walk_at "call ref") => `(tactic| (k_here; (with_reducible show wpAny _ _ (call (Value.ref 199) [Value.str (RS _) _]) _ _ _); k_dflt (refine' useE (c_ending _ _ (by first | assumption | exact sem_len_le (by assumption) | omega)) ?k1 ?k2 ?k3 ?k4 ?k5 ?kK ?kd ?ku ?_; (case k1 => k_asm); (case k2 => k_asm); (case k3 => k_asm); (case k4 => k_asm); (case k5 => k_asm); (case kK => first | exact rfl | assumption); (case kd => ktr_room); (case ku => ktr_units); intro t9 h9 tk9 F9 N9; (try dsimp only); (try k_fold))))
local macro_rules | `(tactic| walk_at "StopDown") => `(tactic| exact stop_down_le_and)
local macro_rules | `(tactic| walk_at "eval ListComp") => `(tactic| (k_here; k_dflt (refine' ListComp_Sg ?hh ?hclos ?hcell ?hkind ?hnames ?hx ?kF ?kN ?hsz ?hi ?turn ?fin; (case hh => exact rfl); (case hclos => with_unfolding_all rfl); (case hcell => decide); (case hkind => exact rfl); (case hnames => decide); (case hx => exact rfl); (case kF => k_asm); (case kN => k_asm); (case hi => (refine' ld ?a ?b ?_; (case a => k_asm); (case b => exact rfl); exact ⟨rfl, rfl⟩)); (case hsz => (rw [sizeLine_eq]; omega)))))
local macro_rules | `(tactic| walk_at "call type:bytes") => `(tactic| (k_here; (with_reducible show wpAny _ _ (call (Value.type "bytes") [Value.ref _]) _ _ _); k_dflt (refine' make_RY ?kF ?kN ?hh ?hi ?ho ?hr ?_; (case kN => assumption); (case kF => k_asm); (case hh => exact rfl); (case hi => assumption); (case ho => assumption); (case hr => assumption)); intro _ _ _ _ _))
set_option maxRecDepth 100000 in
set_option maxHeartbeats 8000000 in
theorem c_kindF {w mean mg mb} (x : Str) (t : Tok) : CtrV w mean mg mb 211 1 10 [.str x t, .bool false] (fun R => R = fun t => .str x t) := by
  w_top off
  k_with_none
  unfold CtrV
  k_fill
  intro dp un gd cn cs a ccd cl outer A₀ base h₀ L m news s Q E B F X N T hk hd hu hret
  refine wpAny_call ?_
  k_dflt ktr_enter
  k_with_none
  k_steps
  all_goals exact retE hret (by k_asm) (by k_asm)
set_option maxRecDepth 100000 in
set_option maxHeartbeats 8000000 in
theorem c_kindT {w mean mg mb} (r : List Nat) (t : Tok) (hr : r.length ≤ 1000) (ho : Oct r) : CtrV w mean mg mb 211 1 10 [.str (RS r) t, .bool true] (fun R => R = fun t => .bytes (RY r) t) := by
  w_top off
  k_with_none
  unfold CtrV
  k_fill
  intro dp un gd cn cs a ccd cl outer A₀ base h₀ L m news s Q E B F X N T hk hd hu hret
  have hx : (RS r).length ≤ 1000 := by rw [RS_len]; exact hr
  refine wpAny_call ?_
  k_dflt ktr_enter
  k_with_none
  k_steps
  all_goals exact retE hret (by k_asm) (by first | k_asm | (refine' sub_of ?kN ?kS; (case kN => assumption); (case kS => kcj_all)))
end
section
open PySem.Calls
theorem empty_RS : Str.ofString "" = RS [] := by decide +kernel
theorem c_kindE {w mean mg mb} (t : Tok) : CtrV w mean mg mb 211 1 10 [.str (Str.ofString "") t, .bool true] (fun R => R = fun t => .bytes (RY []) t) := by
  rw [empty_RS]
  exact c_kindT [] t (Nat.zero_le _) (fun _ h => nomatch h)
theorem c_deedSW {w mean mg mb} (l : List Nat) (k : Int) (x : Str) (r : List Nat) (t t₂ : Tok) (e : x = RS r) (h0 : 0 ≤ k) (h1 : k < l.length) (hl : Letters l) (hr : r.length ≤ 1000) :
    CtrV w mean mg mb 178 4 40 [.str (Txt.item (W l) k) t₂, .str x t] (fun R => R = fun t => .str (RS (deed (l.getD k.toNat 0) r)) t) := by
  subst e
  obtain ⟨c, hc, he⟩ := W_item h0 h1
  have e2 : l.getD k.toNat 0 = c := by rw [List.getD_eq_getElem?_getD, hc]; rfl
  rw [he, e2]
  exact c_deedS c r t t₂ hr (hl c (List.mem_of_getElem? hc))
theorem c_deedYW {w mean mg mb} (l : List Nat) (k : Int) (x : Array UInt8) (r : List Nat) (t t₂ : Tok) (e : x = RY r) (h0 : 0 ≤ k) (h1 : k < l.length) (hl : Letters l) (hr : r.length ≤ 1000) (ho : Oct r) :
    CtrV w mean mg mb 178 4 40 [.str (Txt.item (W l) k) t₂, .bytes x t] (fun R => R = fun t => .bytes (RY (deed (l.getD k.toNat 0) r)) t) := by
  subst e
  obtain ⟨c, hc, he⟩ := W_item h0 h1
  have e2 : l.getD k.toNat 0 = c := by rw [List.getD_eq_getElem?_getD, hc]; rfl
  rw [he, e2]
  exact c_deedY c r t t₂ hr ho (hl c (List.mem_of_getElem? hc))
theorem c_twinW {w mean mg mb} (l : List Nat) (k : Int) (x : Str) (r : List Nat) (t t₂ : Tok) (e : x = RS r) (h0 : 0 ≤ k) (h1 : k < l.length) (hl : Letters l) (hr : r.length ≤ 1000) :
    CtrV w mean mg mb 206 3 30 [.str (Txt.item (W l) k) t₂, .str x t] (fun R => R = fun t => .str (RS (deed (l.getD k.toNat 0) r)) t) := by
  subst e
  obtain ⟨c, hc, he⟩ := W_item h0 h1
  have e2 : l.getD k.toNat 0 = c := by rw [List.getD_eq_getElem?_getD, hc]; rfl
  rw [he, e2]
  exact c_twin c r t t₂ hr (hl c (List.mem_of_getElem? hc))
local macro_rules | `(tactic| walk_at "call type:type") => `(tactic| (k_here; (with_reducible show wpAny _ _ (call (Value.type "type") [Value.bytes _ _]) _ _ _); refine call_type_of (Tx := "bytes") rfl (by decide +kernel) ?_))
local macro_rules | `(tactic| walk_at "call builtin:issubclass") => `(tactic| (k_here; k_dflt (first
  | (refine' issub_SN ?k1 ?k2 ?_; (case k1 => k_asm); (case k2 => k_mem); k_whole)
  | (refine' issub_BN ?k1 ?k2 ?_; (case k1 => k_asm); (case k2 => k_mem); k_whole))))
local macro_rules | `(tactic| walk_at "getMethod bytes") => `(tactic| with_reducible refine RB.m_rfind ?_)
local macro_rules | `(tactic| walk_at "getMethod bytes") => `(tactic| with_reducible refine RB.m_rstrip ?_)
local macro_rules | `(tactic| walk_at "call builtin:bytes.rfind") => `(tactic| refine RB.rfind ?_)
local macro_rules | `(tactic| walk_at "call builtin:bytes.rstrip") => `(tactic| (refine' RB.rstrip ?_ ?kz; (case kz => first | omega | (refine Nat.le_trans (KBc.size_picked_le _ _ _) ?_; omega)); k_whole; intro _ _))
local macro_rules | `(tactic| walk_at "subscriptTail") => `(tactic| (k_here; (with_reducible show wpAny _ _ (subscriptTail _ (Expr.Slice _ _ none _) (Value.bytes _ _) (Value.ref _)) _ _ _); (with_reducible rename Fr _ _ _ _ => F'); (with_reducible rename News _ _ _ _ => N'); (refine' RB.slice (s := ⟨_, _, _, _, _⟩) F' N' ?kl ?ku ?kz ?_; (case kl => constructor); (case ku => constructor); (case kz => first | omega | (refine Nat.le_trans (KBc.size_picked_le _ _ _) ?_; omega)); k_whole); intro _ _ _ _ _))
local macro_rules | `(tactic| walk_at "truthy bytes") => `(tactic| (k_here; (refine' truthy_bytes ?kz ?_; (case kz => first | omega | (refine Nat.le_trans (KBc.size_picked_le _ _ _) ?_; omega)); k_whole)))
local macro_rules | `(tactic| walk_at "call builtin:len") => `(tactic| (k_here; (with_reducible show wpAny _ _ (call (Value.builtin "len") [Value.bytes _ _]) _ _ _); (refine' RB.len ?kz ?_; (case kz => first | omega | (refine Nat.le_trans (KBc.size_picked_le _ _ _) ?_; omega)); k_whole; intro _)))
local macro_rules | `(tactic| walk_at "call ref") => `(tactic| (k_here; (with_reducible show wpAny _ _ (call (Value.ref 101) [Value.str _ _]) _ _ _); k_dflt (refine' useE (c_fspathS _ _) ?k1 ?k2 ?k3 ?k4 ?k5 ?kK ?kd ?ku ?_; (case k1 => k_asm); (case k2 => k_asm); (case k3 => k_asm); (case k4 => k_asm); (case k5 => k_asm); (case kK => first | exact rfl | assumption); (case kd => ktr_room); (case ku => ktr_units); intro t9 h9 tk9 F9 N9; (try dsimp only); (try k_fold))))
local macro_rules | `(tactic| walk_at "call ref") => `(tactic| (k_here; (with_reducible show wpAny _ _ (call (Value.ref 101) [Value.bytes _ _]) _ _ _); k_dflt (refine' useE (c_fspathB _ _) ?k1 ?k2 ?k3 ?k4 ?k5 ?kK ?kd ?ku ?_; (case k1 => k_asm); (case k2 => k_asm); (case k3 => k_asm); (case k4 => k_asm); (case k5 => k_asm); (case kK => first | exact rfl | assumption); (case kd => ktr_room); (case ku => ktr_units); intro t9 h9 tk9 F9 N9; (try dsimp only); (try k_fold))))
local macro_rules | `(tactic| walk_at "call ref") => `(tactic| (k_here; (with_reducible show wpAny _ _ (call (Value.ref 115) [Value.str _ _]) _ _ _); k_dflt (refine' useE (c_get_sepS _ _) ?k1 ?k2 ?k3 ?k4 ?k5 ?kK ?kd ?ku ?_; (case k1 => k_asm); (case k2 => k_asm); (case k3 => k_asm); (case k4 => k_asm); (case k5 => k_asm); (case kK => first | exact rfl | assumption); (case kd => ktr_room); (case ku => ktr_units); intro t9 h9 tk9 F9 N9; (try dsimp only); (try k_fold))))
local macro_rules | `(tactic| walk_at "call ref") => `(tactic| (k_here; (with_reducible show wpAny _ _ (call (Value.ref 115) [Value.bytes _ _]) _ _ _); k_dflt (refine' useE (c_get_sepB _ _) ?k1 ?k2 ?k3 ?k4 ?k5 ?kK ?kd ?ku ?_; (case k1 => k_asm); (case k2 => k_asm); (case k3 => k_asm); (case k4 => k_asm); (case k5 => k_asm); (case kK => first | exact rfl | assumption); (case kd => ktr_room); (case ku => ktr_units); intro t9 h9 tk9 F9 N9; (try dsimp only); (try k_fold))))
local macro_rules | `(tactic| walk_at "call ref") => `(tactic| (k_here; (with_reducible show wpAny _ _ (call (Value.ref 108) [Value.str (RS _) _, Value.str _ _, Value.none, Value.str _ _]) _ _ _); k_dflt (refine' useP (c_splitext0S _ _ _ _ (by first | assumption | exact sem_len_le (by assumption) | omega)) ?k1 ?k2 ?k3 ?k4 ?k5 ?kK ?kd ?ku ?_; (case k1 => k_asm); (case k2 => k_asm); (case k3 => k_asm); (case k4 => k_asm); (case k5 => k_asm); (case kK => first | exact rfl | assumption); (case kd => ktr_room); (case ku => ktr_units); intro r9 ta9 tb9 k9 h9 tk9 F9 N9 l1; (try dsimp only); (try k_fold))))
local macro_rules | `(tactic| walk_at "call ref") => `(tactic| (k_here; (with_reducible show wpAny _ _ (call (Value.ref 108) [Value.bytes (RY _) _, Value.bytes _ _, Value.none, Value.bytes _ _]) _ _ _); k_dflt (refine' useP (c_splitext0B _ _ _ _ (by first | assumption | exact sem_len_le (by assumption) | omega) (by assumption)) ?k1 ?k2 ?k3 ?k4 ?k5 ?kK ?kd ?ku ?_; (case k1 => k_asm); (case k2 => k_asm); (case k3 => k_asm); (case k4 => k_asm); (case k5 => k_asm); (case kK => first | exact rfl | assumption); (case kd => ktr_room); (case ku => ktr_units); intro r9 ta9 tb9 k9 h9 tk9 F9 N9 l1; (try dsimp only); (try k_fold))))
local macro_rules | `(tactic| walk_at "call ref") => `(tactic| (k_here; (with_reducible show wpAny _ _ (call (Value.ref 122) [Value.str (RS _) _]) _ _ _); k_dflt (refine' useP (c_splitextS _ _ (by first | assumption | exact sem_len_le (by assumption) | omega)) ?k1 ?k2 ?k3 ?k4 ?k5 ?kK ?kd ?ku ?_; (case k1 => k_asm); (case k2 => k_asm); (case k3 => k_asm); (case k4 => k_asm); (case k5 => k_asm); (case kK => first | exact rfl | assumption); (case kd => ktr_room); (case ku => ktr_units); intro r9 ta9 tb9 k9 h9 tk9 F9 N9 l1; (try dsimp only); (try k_fold))))
local macro_rules | `(tactic| walk_at "call ref") => `(tactic| (k_here; (with_reducible show wpAny _ _ (call (Value.ref 122) [Value.bytes (RY _) _]) _ _ _); k_dflt (refine' useP (c_splitextB _ _ (by first | assumption | exact sem_len_le (by assumption) | omega) (by assumption)) ?k1 ?k2 ?k3 ?k4 ?k5 ?kK ?kd ?ku ?_; (case k1 => k_asm); (case k2 => k_asm); (case k3 => k_asm); (case k4 => k_asm); (case k5 => k_asm); (case kK => first | exact rfl | assumption); (case kd => ktr_room); (case ku => ktr_units); intro r9 ta9 tb9 k9 h9 tk9 F9 N9 l1; (try dsimp only); (try k_fold))))
local macro_rules | `(tactic| walk_at "call ref") => `(tactic| (k_here; (with_reducible show wpAny _ _ (call (Value.ref 132) [Value.str (RS _) _]) _ _ _); k_dflt (refine' useE (c_basenameS _ _ (by first | assumption | exact sem_len_le (by assumption) | omega)) ?k1 ?k2 ?k3 ?k4 ?k5 ?kK ?kd ?ku ?_; (case k1 => k_asm); (case k2 => k_asm); (case k3 => k_asm); (case k4 => k_asm); (case k5 => k_asm); (case kK => first | exact rfl | assumption); (case kd => ktr_room); (case ku => ktr_units); intro t9 h9 tk9 F9 N9; (try dsimp only); (try k_fold))))
local macro_rules | `(tactic| walk_at "call ref") => `(tactic| (k_here; (with_reducible show wpAny _ _ (call (Value.ref 132) [Value.bytes (RY _) _]) _ _ _); k_dflt (refine' useE (c_basenameB _ _ (by first | assumption | exact sem_len_le (by assumption) | omega) (by assumption)) ?k1 ?k2 ?k3 ?k4 ?k5 ?kK ?kd ?ku ?_; (case k1 => k_asm); (case k2 => k_asm); (case k3 => k_asm); (case k4 => k_asm); (case k5 => k_asm); (case kK => first | exact rfl | assumption); (case kd => ktr_room); (case ku => ktr_units); intro t9 h9 tk9 F9 N9; (try dsimp only); (try k_fold))))
local macro_rules | `(tactic| walk_at "call ref") => `(tactic| (k_here; (with_reducible show wpAny _ _ (call (Value.ref 139) [Value.str (RS _) _]) _ _ _); k_dflt (refine' useE (c_dirnameS _ _ (by first | assumption | exact sem_len_le (by assumption) | omega)) ?k1 ?k2 ?k3 ?k4 ?k5 ?kK ?kd ?ku ?_; (case k1 => k_asm); (case k2 => k_asm); (case k3 => k_asm); (case k4 => k_asm); (case k5 => k_asm); (case kK => first | exact rfl | assumption); (case kd => ktr_room); (case ku => ktr_units); intro t9 h9 tk9 F9 N9; (try dsimp only); (try k_fold))))
local macro_rules | `(tactic| walk_at "call ref") => `(tactic| (k_here; (with_reducible show wpAny _ _ (call (Value.ref 139) [Value.bytes (RY _) _]) _ _ _); k_dflt (refine' useE (c_dirnameB _ _ (by first | assumption | exact sem_len_le (by assumption) | omega) (by assumption)) ?k1 ?k2 ?k3 ?k4 ?k5 ?kK ?kd ?ku ?_; (case k1 => k_asm); (case k2 => k_asm); (case k3 => k_asm); (case k4 => k_asm); (case k5 => k_asm); (case kK => first | exact rfl | assumption); (case kd => ktr_room); (case ku => ktr_units); intro t9 h9 tk9 F9 N9; (try dsimp only); (try k_fold))))
local macro_rules | `(tactic| walk_at "call ref") => `(tactic| (k_here; (with_reducible show wpAny _ _ (call (Value.ref 185) [Value.str (RS _) _]) _ _ _); k_dflt (refine' useE (c_name _ _ (by first | assumption | exact sem_len_le (by assumption) | omega)) ?k1 ?k2 ?k3 ?k4 ?k5 ?kK ?kd ?ku ?_; (case k1 => k_asm); (case k2 => k_asm); (case k3 => k_asm); (case k4 => k_asm); (case k5 => k_asm); (case kK => first | exact rfl | assumption); (case kd => ktr_room); (case ku => ktr_units); intro t9 h9 tk9 F9 N9; (try dsimp only); (try k_fold))))
local macro_rules | `(tactic| walk_at "call ref") => `(tactic| (k_here; (with_reducible show wpAny _ _ (call (Value.ref 192) [Value.str (RS _) _]) _ _ _); k_dflt (refine' useE (c_head _ _ (by first | assumption | exact sem_len_le (by assumption) | omega)) ?k1 ?k2 ?k3 ?k4 ?k5 ?kK ?kd ?ku ?_; (case k1 => k_asm); (case k2 => k_asm); (case k3 => k_asm); (case k4 => k_asm); (case k5 => k_asm); (case kK => first | exact rfl | assumption); (case kd => ktr_room); (case ku => ktr_units); intro t9 h9 tk9 F9 N9; (try dsimp only); (try k_fold))))
local macro_rules | `(tactic| walk_at "call ref") => `(tactic| (k_here; (with_reducible show wpAny _ _ (call (Value.ref 199) [Value.str (RS _) _]) _ _ _); k_dflt (refine' useE (c_ending _ _ (by first | assumption | exact sem_len_le (by assumption) | omega)) ?k1 ?k2 ?k3 ?k4 ?k5 ?kK ?kd ?ku ?_; (case k1 => k_asm); (case k2 => k_asm); (case k3 => k_asm); (case k4 => k_asm); (case k5 => k_asm); (case kK => first | exact rfl | assumption); (case kd => ktr_room); (case ku => ktr_units); intro t9 h9 tk9 F9 N9; (try dsimp only); (try k_fold))))
local macro_rules | `(tactic| walk_at "call ref") => `(tactic| (k_here; (with_reducible show wpAny _ _ (call (Value.ref 206) [Value.str ⟨#[_]⟩ _, Value.str (RS _) _]) _ _ _); k_dflt (refine' useE (c_twin _ _ _ _ (by first | assumption | exact sem_len_le (by assumption) | omega) (by assumption)) ?k1 ?k2 ?k3 ?k4 ?k5 ?kK ?kd ?ku ?_; (case k1 => k_asm); (case k2 => k_asm); (case k3 => k_asm); (case k4 => k_asm); (case k5 => k_asm); (case kK => first | exact rfl | assumption); (case kd => ktr_room); (case ku => ktr_units); intro t9 h9 tk9 F9 N9; (try dsimp only); (try k_fold))))
local macro_rules | `(tactic| walk_at "call ref") => `(tactic| (k_here; (with_reducible show wpAny _ _ (call (Value.ref 211) [Value.str _ _, Value.bool false]) _ _ _); k_dflt (refine' useE (c_kindF _ _) ?k1 ?k2 ?k3 ?k4 ?k5 ?kK ?kd ?ku ?_; (case k1 => k_asm); (case k2 => k_asm); (case k3 => k_asm); (case k4 => k_asm); (case k5 => k_asm); (case kK => first | exact rfl | assumption); (case kd => ktr_room); (case ku => ktr_units); intro t9 h9 tk9 F9 N9; (try dsimp only); (try k_fold))))
local macro_rules | `(tactic| walk_at "call ref") => `(tactic| (k_here; (with_reducible show wpAny _ _ (call (Value.ref 211) [Value.str (RS _) _, Value.bool true]) _ _ _); k_dflt (refine' useE (c_kindT _ _ (by first | assumption | exact sem_len_le (by assumption) | omega) (by assumption)) ?k1 ?k2 ?k3 ?k4 ?k5 ?kK ?kd ?ku ?_; (case k1 => k_asm); (case k2 => k_asm); (case k3 => k_asm); (case k4 => k_asm); (case k5 => k_asm); (case kK => first | exact rfl | assumption); (case kd => ktr_room); (case ku => ktr_units); intro t9 h9 tk9 F9 N9; (try dsimp only); (try k_fold))))
local macro_rules | `(tactic| walk_at "call ref") => `(tactic| (k_here; (with_reducible show wpAny _ _ (call (Value.ref 211) [Value.str (Str.ofString "") _, Value.bool true]) _ _ _); k_dflt (refine' useE (c_kindE _) ?k1 ?k2 ?k3 ?k4 ?k5 ?kK ?kd ?ku ?_; (case k1 => k_asm); (case k2 => k_asm); (case k3 => k_asm); (case k4 => k_asm); (case k5 => k_asm); (case kK => first | exact rfl | assumption); (case kd => ktr_room); (case ku => ktr_units); intro t9 h9 tk9 F9 N9; (try dsimp only); (try k_fold))))
local macro_rules | `(tactic| walk_at "call ref") => `(tactic| (k_here; (with_reducible show wpAny _ _ (call (Value.ref 178) [Value.str (Txt.item (W _) _) _, Value.str _ _]) _ _ _); k_dflt (refine' useE (c_deedSW _ _ _ _ _ _ (by assumption) (by omega) (by omega) (by assumption) (by first | assumption | exact sem_len_le (by assumption) | omega)) ?k1 ?k2 ?k3 ?k4 ?k5 ?kK ?kd ?ku ?_; (case k1 => k_asm); (case k2 => k_asm); (case k3 => k_asm); (case k4 => k_asm); (case k5 => k_asm); (case kK => first | exact rfl | assumption); (case kd => ktr_room); (case ku => ktr_units); intro t9 h9 tk9 F9 N9; (try dsimp only); (try k_fold))))
local macro_rules | `(tactic| walk_at "call ref") => `(tactic| (k_here; (with_reducible show wpAny _ _ (call (Value.ref 178) [Value.str (Txt.item (W _) _) _, Value.bytes _ _]) _ _ _); k_dflt (refine' useE (c_deedYW _ _ _ _ _ _ (by assumption) (by omega) (by omega) (by assumption) (by first | assumption | exact sem_len_le (by assumption) | omega) (by first | assumption | exact sem_oct (by assumption))) ?k1 ?k2 ?k3 ?k4 ?k5 ?kK ?kd ?ku ?_; (case k1 => k_asm); (case k2 => k_asm); (case k3 => k_asm); (case k4 => k_asm); (case k5 => k_asm); (case kK => first | exact rfl | assumption); (case kd => ktr_room); (case ku => ktr_units); intro t9 h9 tk9 F9 N9; (try dsimp only); (try k_fold))))
local macro_rules | `(tactic| walk_at "call ref") => `(tactic| (k_here; (with_reducible show wpAny _ _ (call (Value.ref 206) [Value.str (Txt.item (W _) _) _, Value.str _ _]) _ _ _); k_dflt (refine' useE (c_twinW _ _ _ _ _ _ (by assumption) (by omega) (by omega) (by assumption) (by first | assumption | exact sem_len_le (by assumption) | omega)) ?k1 ?k2 ?k3 ?k4 ?k5 ?kK ?kd ?ku ?_; (case k1 => k_asm); (case k2 => k_asm); (case k3 => k_asm); (case k4 => k_asm); (case k5 => k_asm); (case kK => first | exact rfl | assumption); (case kd => ktr_room); (case ku => ktr_units); intro t9 h9 tk9 F9 N9; (try dsimp only); (try k_fold))))
local macro_rules | `(tactic| walk_at "StopDown") => `(tactic| exact stop_down_le_and)
local macro_rules | `(tactic| walk_at "eval ListComp") => `(tactic| (k_here; k_dflt (refine' ListComp_Sg ?hh ?hclos ?hcell ?hkind ?hnames ?hx ?kF ?kN ?hsz ?hi ?turn ?fin; (case hh => exact rfl); (case hclos => with_unfolding_all rfl); (case hcell => decide); (case hkind => exact rfl); (case hnames => decide); (case hx => exact rfl); (case kF => k_asm); (case kN => k_asm); (case hi => (refine' ld ?a ?b ?_; (case a => k_asm); (case b => exact rfl); exact ⟨rfl, rfl⟩)); (case hsz => (rw [sizeLine_eq]; omega)))))
local macro_rules | `(tactic| walk_at "call type:bytes") => `(tactic| (k_here; (with_reducible show wpAny _ _ (call (Value.type "bytes") [Value.ref _]) _ _ _); k_dflt (refine' make_RY ?kF ?kN ?hh ?hi ?ho ?hr ?_; (case kN => assumption); (case kF => k_asm); (case hh => exact rfl); (case hi => assumption); (case ho => assumption); (case hr => assumption)); intro _ _ _ _ _))
set_option maxRecDepth 100000 in
set_option maxHeartbeats 8000000 in
theorem c_doneS {w mean mg mb} (l : List Nat) (r : List Nat) (t t₂ : Tok) (hr : r.length ≤ 1000) (hl : Letters l) (hn : l.length ≤ 100) : CtrV w mean mg mb 218 5 50 [.str (W l) t₂, .str (RS r) t, .bool false] (fun R => R = fun t => .str (RS (sem l r)) t) := by
  w_top off
  k_with_none
  unfold CtrV
  k_fill
  intro dp un gd cn cs a ccd cl outer A₀ base h₀ L m news s Q E B F X N T hk hd hu hret
  have hx : (RS r).length ≤ 1000 := by rw [RS_len]; exact hr
  have hw : (W l).length = l.length := W_len l
  have hz : (W l == Str.ofString "Z") = false := Z_no hl
  refine wpAny_call ?_
  k_dflt ktr_enter
  k_with_none
  k_with "pyIter ref" => k_state (fun pre th => pre.length ≤ l.length ∧ th = RS (sem (l.drop (l.length - pre.length)) r)) "thing"
  k_with "state" => first | exact done_start | exact done_turn (by assumption) (by assumption)
  k_steps
  all_goals
    have e9 := done_end (l := l) (r := r) (by assumption)
    rw [e9]
    exact retE hret (by k_asm) (by first | k_asm | (refine' sub_of ?kN ?kS; (case kN => assumption); (case kS => kcj_all)))
set_option maxRecDepth 100000 in
set_option maxHeartbeats 8000000 in
theorem c_doneY {w mean mg mb} (l : List Nat) (r : List Nat) (t t₂ : Tok) (hr : r.length ≤ 1000) (ho : Oct r) (hl : Letters l) (hn : l.length ≤ 100) : CtrV w mean mg mb 218 5 50 [.str (W l) t₂, .bytes (RY r) t, .bool true] (fun R => R = fun t => .bytes (RY (sem l r)) t) := by
  w_top off
  k_with_none
  unfold CtrV
  k_fill
  intro dp un gd cn cs a ccd cl outer A₀ base h₀ L m news s Q E B F X N T hk hd hu hret
  have hx : (RY r).size ≤ 1000 := by rw [RY_size]; exact hr
  have hw : (W l).length = l.length := W_len l
  have hz : (W l == Str.ofString "Z") = false := Z_no hl
  refine wpAny_call ?_
  k_dflt ktr_enter
  k_with_none
  k_with "pyIter ref" => k_state (fun pre (th : Array UInt8) => pre.length ≤ l.length ∧ th = RY (sem (l.drop (l.length - pre.length)) r)) "thing"
  k_with "state" => first | exact done_startY | exact done_turnY (by assumption) (by assumption)
  k_steps
  all_goals
    have e9 := done_endY (l := l) (r := r) (by assumption)
    rw [e9]
    exact retE hret (by k_asm) (by first | k_asm | (refine' sub_of ?kN ?kS; (case kN => assumption); (case kS => kcj_all)))
set_option maxRecDepth 100000 in
set_option maxHeartbeats 8000000 in
theorem c_doneZS {w mean mg mb} (x : Str) (t t₂ : Tok) : CtrV w mean mg mb 218 5 50 [.str (W [90]) t₂, .str x t, .bool false] (fun R => R = fun t => .str (RS []) t) := by
  w_top off
  k_with_none
  unfold CtrV
  k_fill
  intro dp un gd cn cs a ccd cl outer A₀ base h₀ L m news s Q E B F X N T hk hd hu hret
  have hz : (W [90] == Str.ofString "Z") = true := Z_yes
  refine wpAny_call ?_
  k_dflt ktr_enter
  k_with_none
  k_steps
  all_goals
    rw [empty_RS]
    exact retE hret (by k_asm) (by first | k_asm | (refine' sub_of ?kN ?kS; (case kN => assumption); (case kS => kcj_all)))
set_option maxRecDepth 100000 in
set_option maxHeartbeats 8000000 in
theorem c_doneZY {w mean mg mb} (x : Array UInt8) (t t₂ : Tok) : CtrV w mean mg mb 218 5 50 [.str (W [90]) t₂, .bytes x t, .bool true] (fun R => R = fun t => .bytes (RY []) t) := by
  w_top off
  k_with_none
  unfold CtrV
  k_fill
  intro dp un gd cn cs a ccd cl outer A₀ base h₀ L m news s Q E B F X N T hk hd hu hret
  have hz : (W [90] == Str.ofString "Z") = true := Z_yes
  refine wpAny_call ?_
  k_dflt ktr_enter
  k_with_none
  k_steps
  all_goals
    exact retE hret (by k_asm) (by first | k_asm | (refine' sub_of ?kN ?kS; (case kN => assumption); (case kS => kcj_all)))
set_option maxRecDepth 100000 in
set_option maxHeartbeats 8000000 in
theorem c_due {w mean mg mb} (l : List Nat) (r : List Nat) (t t₂ : Tok) (hr : r.length ≤ 1000) (hl : Letters l) (hn : l.length ≤ 100) : CtrV w mean mg mb 225 5 50 [.str (W l) t₂, .str (RS r) t] (fun R => R = fun t => .str (RS (sem l r)) t) := by
  w_top off
  k_with_none
  unfold CtrV
  k_fill
  intro dp un gd cn cs a ccd cl outer A₀ base h₀ L m news s Q E B F X N T hk hd hu hret
  have hx : (RS r).length ≤ 1000 := by rw [RS_len]; exact hr
  have hw : (W l).length = l.length := W_len l
  have hz : (W l == Str.ofString "Z") = false := Z_no hl
  refine wpAny_call ?_
  k_dflt ktr_enter
  k_with_none
  k_with "pyIter ref" => k_state (fun pre th => pre.length ≤ l.length ∧ th = RS (sem (l.drop (l.length - pre.length)) r)) "text"
  k_with "state" => first | exact done_start | exact done_turn (by assumption) (by assumption)
  k_steps
  all_goals
    have e9 := done_end (l := l) (r := r) (by assumption)
    rw [e9]
    exact retE hret (by k_asm) (by first | k_asm | (refine' sub_of ?kN ?kS; (case kN => assumption); (case kS => kcj_all)))
set_option maxRecDepth 100000 in
set_option maxHeartbeats 8000000 in
theorem c_dueZ {w mean mg mb} (x : Str) (t t₂ : Tok) : CtrV w mean mg mb 225 5 50 [.str (W [90]) t₂, .str x t] (fun R => R = fun t => .str (RS []) t) := by
  w_top off
  k_with_none
  unfold CtrV
  k_fill
  intro dp un gd cn cs a ccd cl outer A₀ base h₀ L m news s Q E B F X N T hk hd hu hret
  have hz : (W [90] == Str.ofString "Z") = true := Z_yes
  refine wpAny_call ?_
  k_dflt ktr_enter
  k_with_none
  k_steps
  all_goals
    rw [empty_RS]
    exact retE hret (by k_asm) (by first | k_asm | (refine' sub_of ?kN ?kS; (case kN => assumption); (case kS => kcj_all)))
end
section
open PySem.Calls
local macro_rules | `(tactic| walk_at "call type:type") => `(tactic| (k_here; (with_reducible show wpAny _ _ (call (Value.type "type") [Value.bytes _ _]) _ _ _); refine call_type_of (Tx := "bytes") rfl (by decide +kernel) ?_))
local macro_rules | `(tactic| walk_at "call builtin:issubclass") => `(tactic| (k_here; k_dflt (first
  | (refine' issub_SN ?k1 ?k2 ?_; (case k1 => k_asm); (case k2 => k_mem); k_whole)
  | (refine' issub_BN ?k1 ?k2 ?_; (case k1 => k_asm); (case k2 => k_mem); k_whole))))
local macro_rules | `(tactic| walk_at "getMethod bytes") => `(tactic| with_reducible refine RB.m_rfind ?_)
local macro_rules | `(tactic| walk_at "getMethod bytes") => `(tactic| with_reducible refine RB.m_rstrip ?_)
local macro_rules | `(tactic| walk_at "call builtin:bytes.rfind") => `(tactic| refine RB.rfind ?_)
local macro_rules | `(tactic| walk_at "call builtin:bytes.rstrip") => `(tactic| (refine' RB.rstrip ?_ ?kz; (case kz => first | omega | (refine Nat.le_trans (KBc.size_picked_le _ _ _) ?_; omega)); k_whole; intro _ _))
local macro_rules | `(tactic| walk_at "subscriptTail") => `(tactic| (k_here; (with_reducible show wpAny _ _ (subscriptTail _ (Expr.Slice _ _ none _) (Value.bytes _ _) (Value.ref _)) _ _ _); (with_reducible rename Fr _ _ _ _ => F'); (with_reducible rename News _ _ _ _ => N'); (refine' RB.slice (s := ⟨_, _, _, _, _⟩) F' N' ?kl ?ku ?kz ?_; (case kl => constructor); (case ku => constructor); (case kz => first | omega | (refine Nat.le_trans (KBc.size_picked_le _ _ _) ?_; omega)); k_whole); intro _ _ _ _ _))
local macro_rules | `(tactic| walk_at "truthy bytes") => `(tactic| (k_here; (refine' truthy_bytes ?kz ?_; (case kz => first | omega | (refine Nat.le_trans (KBc.size_picked_le _ _ _) ?_; omega)); k_whole)))
local macro_rules | `(tactic| walk_at "call builtin:len") => `(tactic| (k_here; (with_reducible show wpAny _ _ (call (Value.builtin "len") [Value.bytes _ _]) _ _ _); (refine' RB.len ?kz ?_; (case kz => first | omega | (refine Nat.le_trans (KBc.size_picked_le _ _ _) ?_; omega)); k_whole; intro _)))
local macro_rules | `(tactic| walk_at "StopDown") => `(tactic| exact stop_down_le_and)
set_option maxRecDepth 100000 in
set_option maxHeartbeats 8000000 in
theorem c_word {w mean mg mb} (x : Int) (t : Tok) : CtrV w mean mg mb 164 1 10 [.int x t] (fun R => ∃ l, Letters l ∧ l.length ≤ 10 ∧ R = fun t => .str (W l) t) := by
  w_top off
  k_with_none
  unfold CtrV
  k_fill
  intro dp un gd cn cs a ccd cl outer A₀ base h₀ L m news s Q E B F X N T hk hd hu hret
  have h11 := fmod_nn (x := if x < 0 then -x else x) (k := 11) (by omega)
  refine wpAny_call ?_
  k_dflt ktr_enter
  k_with_none
  k_with "pyIter ref" => k_state (fun pre (word : Str) (y : Int) => 0 ≤ y ∧ word.length = pre.length ∧ ∃ l, Letters l ∧ word = W l) "word" "y"
  k_with "state" => first | exact word_start _ | exact word_turn (by assumption) (by assumption) (by assumption)
  k_steps
  all_goals exact retV hret (word_end (by assumption) (by assumption) h11) (by k_asm) (by k_asm)
end
section
open PySem.Calls
section
variable {prog : Program} {w : World} {A : Around} {E : Value → Shared → Prop} {s : Shared} {env : Env} {h₀ : Heap} {x : Str} {body : List Stmt} {Q : Flow → Shared → Prop}
theorem path_loop {r l : Addr} {b₀ : Int} {t₀ u₀ v₀ : Tok} {m₀ : Str → Option Value} {news : List (Addr × Obj)} {y₀ : Int} {ty : Tok}
    (hh : A.handled = none) (hr : IsRange s.heap r 0 b₀ 1 t₀ u₀ v₀) (hb0 : 0 ≤ b₀) (hb1 : b₀ ≤ 4) (F : Fr h₀ env.locals s.heap m₀) (N : News h₀ env.locals s.heap ((l, PySem.W.listOf #[] 0) :: news)) (hy : m₀ (Str.ofString "y") = some (.int y₀ ty)) (hy0 : 0 ≤ y₀)
    (turn : ∀ (y : Int) (ty : Tok) (vs : List Value) (ps : List Str) (n : Nat) (pre : List Int) (k : Int) t (u : Str → Option Value) h tk own, k = 0 + (pre.length : Int) → pre.length < 4 → OwnOff own (((l, PySem.W.listOf vs.toArray n) :: news).map (·.1)) → StrsAre vs ps → (0 ≤ y ∧ ps.length = pre.length ∧ ∀ p ∈ ps, Piece p) →
      Fr h₀ env.locals h (fun z => if z = x then some (.int k t) else kstB (fun z => if ([] : List Str).contains z then u z else m₀ z) [(Str.ofString "y", .int y ty)] z) → News h₀ env.locals h (((l, PySem.W.listOf vs.toArray n) :: news) ++ own) →
      wpAny (model prog w) A (execs body env) (InvPostN h₀ env.locals (KstS (fun c : Int × Tok × List Value × List Str × Nat => (l, PySem.W.listOf c.2.2.1.toArray c.2.2.2.2) :: news) (fun c => [(Str.ofString "y", .int c.1 c.2.1)]) (fun c => StrsAre c.2.2.1 c.2.2.2.1) x [] m₀
        (fun pre c => 0 ≤ c.1 ∧ c.2.2.2.1.length = pre.length ∧ ∀ p ∈ c.2.2.2.1, Piece p) (pre ++ [k])) own (((l, PySem.W.listOf #[] 0) :: news).map (·.1)) { s with heap := h, toks := tk } Q) E { s with heap := h, toks := tk })
    (done : ∀ (y : Int) (ty : Tok) (vs : List Value) (ps : List Str) (n : Nat) (u : Str → Option Value) h tk, StrsAre vs ps → ps.length ≤ 4 → (∀ p ∈ ps, Piece p) → Fr h₀ env.locals h (fun z => if z = x then u z else kstB (fun z => if ([] : List Str).contains z then u z else m₀ z) [(Str.ofString "y", .int y ty)] z) → News h₀ env.locals h ((l, PySem.W.listOf vs.toArray n) :: news) → Q .next { s with heap := h, toks := tk }) :
    wpAny (model prog w) A (pyIter (.ref r)) (fun it s₂ => LoopAtV prog w A h₀ env x body Q E it s₂) E s := by
  refine kst_range (n := (b₀ - 0).toNat) (fun c : Int × Tok × List Value × List Str × Nat => (l, PySem.W.listOf c.2.2.1.toArray c.2.2.2.2) :: news) (fun c => [(Str.ofString "y", .int c.1 c.2.1)]) (fun c => StrsAre c.2.2.1 c.2.2.2.1) [] (fun pre c => 0 ≤ c.1 ∧ c.2.2.2.1.length = pre.length ∧ ∀ p ∈ c.2.2.2.1, Piece p) (y₀, ty, [], [], 0)
    hh hr (small_one (by omega) (by omega) (by omega) (by omega)) (rangeSize_nat _ _) F N .nil (List.forall_mem_cons.mpr ⟨hy, List.forall_mem_nil _⟩) ⟨hy0, rfl, fun _ h => nomatch h⟩ ?_ ?_
  · intro c pre k t u h tk own e hlt hoff hf hp F' N'
    exact turn c.1 c.2.1 c.2.2.1 c.2.2.2.1 c.2.2.2.2 pre k t u h tk own e (by omega) hoff hf hp F' N'
  · intro c u h tk hf hp F' N'
    refine done c.1 c.2.1 c.2.2.1 c.2.2.2.1 c.2.2.2.2 u h tk hf ?_ hp.2.2 F' N'
    rw [hp.2.1, rangeKs_length]
    omega
end
theorem join_eq (sep : Str) (ys : List Str) : Txt.join sep ys = Str.join sep ys := beq_iff_eq.mp (join_closes rfl)
theorem app_codes {a b : Str} {c : Nat} (h : c ∈ (a ++ b).cps.toList) : c ∈ a.cps.toList ∨ c ∈ b.cps.toList := by
  rw [PySem.Str.cps_append, Array.toList_append] at h
  exact List.mem_append.mp h
theorem join_codes {sep : Str} (hs : ∀ c ∈ sep.cps.toList, c < 256) : ∀ {ys : List Str}, (∀ y ∈ ys, ∀ c ∈ y.cps.toList, c < 256) → ∀ c ∈ (Str.join sep ys).cps.toList, c < 256
  | [], _, c, h => by cases h
  | [x], hy, c, h => hy x (.head _) c h
  | x :: y :: r, hy, c, h => by
    have h' : c ∈ (x ++ sep ++ Str.join sep (y :: r)).cps.toList := h
    rcases app_codes h' with h1 | h1
    · rcases app_codes h1 with h2 | h2
      · exact hy x (.head _) c h2
      · exact hs c h2
    · exact join_codes hs (fun z hz => hy z (.tail _ hz)) c h1
theorem sum_pieces : ∀ {ps : List Str}, (∀ p ∈ ps, Piece p) → (ps.map (·.length)).sum ≤ 7 * ps.length
  | [], _ => Nat.le_refl _
  | p :: r, h => by
    have h1 := (h p (.head _)).1
    have h2 := sum_pieces fun q hq => h q (.tail _ hq)
    rw [List.map_cons, List.sum_cons, List.length_cons]
    omega
section
variable {prog : Program} {w : World} {A : Around} {E : Value → Shared → Prop} {s : Shared} {h₀ : Heap} {L l : Addr} {news : List (Addr × Obj)} {vs : List Value} {ps : List Str} {n : Nat} {t : Tok} {Q : Value → Shared → Prop}
theorem join_pieces (N : News h₀ L s.heap ((l, PySem.W.listOf vs.toArray n) :: news)) (hS : StrsAre vs ps) (hl : ps.length ≤ 4) (hP : ∀ p ∈ ps, Piece p)
    (h : ∀ t' k, (Txt.join (Str.ofString "/") ps).length ≤ 100 → Q (.str (Txt.join (Str.ofString "/") ps) t') { s with toks := k }) : wpAny (model prog w) A (call (.builtin "str.join") [.str (Str.ofString "/") t, .ref l]) Q E s := by
  have hsum := sum_pieces hP
  have hone : (Str.ofString "/").length = 1 := by decide +kernel
  refine join_listW (items := vs.toArray) ⟨_, (N _ (.head _)).1, rfl, _, rfl⟩ (by simpa using hS) (by rw [hone]; omega) (by omega) fun t' k => h t' k ?_
  rw [join_eq]
  have h1 := StrLaws.join_length_le (Str.ofString "/") ps
  rw [hone] at h1
  omega
end
theorem path_end {f : Str} {ps : List Str} (hf : f.length ≤ 3) (hfo : ∀ c ∈ f.cps.toList, c < 256) (hP : ∀ p ∈ ps, Piece p) (hj : (Txt.join (Str.ofString "/") ps).length ≤ 100) :
    ∃ r, r.length ≤ 1000 ∧ Oct r ∧ (fun t : Tok => Value.str (f ++ Txt.join (Str.ofString "/") ps) t) = fun t => .str (RS r) t := by
  refine ⟨(f ++ Txt.join (Str.ofString "/") ps).cps.toList.reverse, ?_, fun c hc => ?_, ?_⟩
  · rw [List.length_reverse, Array.length_toList]
    show (f ++ Txt.join (Str.ofString "/") ps).length ≤ 1000
    rw [PySem.Str.length_append]
    omega
  · rw [List.mem_reverse] at hc
    rcases app_codes hc with h | h
    · exact hfo c h
    · rw [join_eq] at h
      refine join_codes (fun d hd => ?_) (fun y hy => (hP y hy).2) c h
      rw [slash_eq] at hd
      have : d = 47 := by simpa using hd
      omega
  · funext t
    unfold RS
    rw [List.reverse_reverse, Array.toArray_toList]
theorem path_close {h₀ h' : Heap} {L l : Addr} {x : Str} {m₀ m' : Str → Option Value} {news own : List (Addr × Obj)} {vs : List Value} {ps : List Str} {n : Nat} {p : Str} {tp : Tok} {y' : Int} {ty' : Tok} {pre : List Int} {k : Int} {s₁ : Shared} {tk : Nat}
    (F : Fr h₀ L h' m') (N : News h₀ L h' ((l, PySem.W.listOf (vs ++ [Value.str p tp]).toArray (n + 1)) :: (news ++ own))) (hS : StrsAre vs ps) (hy : m' (Str.ofString "y") = some (.int y' ty'))
    (hr : ∀ z, z ≠ x → (∀ q ∈ [(Str.ofString "y", Value.int y' ty')], z ≠ q.1) → ([] : List Str).contains z = false → m' z = m₀ z)
    (hp : 0 ≤ y' ∧ (ps ++ [p]).length = (pre ++ [k]).length ∧ ∀ q ∈ ps ++ [p], Piece q) :
    InvEndN h₀ L (KstS (fun c : Int × Tok × List Value × List Str × Nat => (l, PySem.W.listOf c.2.2.1.toArray c.2.2.2.2) :: news) (fun c => [(Str.ofString "y", .int c.1 c.2.1)]) (fun c => StrsAre c.2.2.1 c.2.2.2.1) x [] m₀
        (fun pre c => 0 ≤ c.1 ∧ c.2.2.2.1.length = pre.length ∧ ∀ p ∈ c.2.2.2.1, Piece p) (pre ++ [k])) own (((l, PySem.W.listOf #[] 0) :: news).map (·.1)) s₁ { s₁ with heap := h', toks := tk } :=
  kst_end ((y', ty', vs ++ [Value.str p tp], ps ++ [p], n + 1) : Int × Tok × List Value × List Str × Nat) F N (fun q hq => by
      rcases List.mem_cons.mp hq with rfl | hq
      · exact .head _
      · exact .tail _ (List.mem_append_left _ hq))
    (fun q hq => .tail _ (List.mem_append_right _ hq)) rfl (hS.append' (.cons _ _ .nil)) (List.forall_mem_cons.mpr ⟨hy, List.forall_mem_nil _⟩) hr hp
end
section
open PySem.Calls
local macro_rules | `(tactic| walk_at "Mine idle") => `(tactic| skip)
local macro_rules | `(tactic| walk_at "call type:type") => `(tactic| (k_here; (with_reducible show wpAny _ _ (call (Value.type "type") [Value.bytes _ _]) _ _ _); refine call_type_of (Tx := "bytes") rfl (by decide +kernel) ?_))
local macro_rules | `(tactic| walk_at "call builtin:issubclass") => `(tactic| (k_here; k_dflt (first
  | (refine' issub_SN ?k1 ?k2 ?_; (case k1 => k_asm); (case k2 => k_mem); k_whole)
  | (refine' issub_BN ?k1 ?k2 ?_; (case k1 => k_asm); (case k2 => k_mem); k_whole))))
local macro_rules | `(tactic| walk_at "getMethod bytes") => `(tactic| with_reducible refine RB.m_rfind ?_)
local macro_rules | `(tactic| walk_at "getMethod bytes") => `(tactic| with_reducible refine RB.m_rstrip ?_)
local macro_rules | `(tactic| walk_at "call builtin:bytes.rfind") => `(tactic| refine RB.rfind ?_)
local macro_rules | `(tactic| walk_at "call builtin:bytes.rstrip") => `(tactic| (refine' RB.rstrip ?_ ?kz; (case kz => first | omega | (refine Nat.le_trans (KBc.size_picked_le _ _ _) ?_; omega)); k_whole; intro _ _))
local macro_rules | `(tactic| walk_at "subscriptTail") => `(tactic| (k_here; (with_reducible show wpAny _ _ (subscriptTail _ (Expr.Slice _ _ none _) (Value.bytes _ _) (Value.ref _)) _ _ _); (with_reducible rename Fr _ _ _ _ => F'); (with_reducible rename News _ _ _ _ => N'); (refine' RB.slice (s := ⟨_, _, _, _, _⟩) F' N' ?kl ?ku ?kz ?_; (case kl => constructor); (case ku => constructor); (case kz => first | omega | (refine Nat.le_trans (KBc.size_picked_le _ _ _) ?_; omega)); k_whole); intro _ _ _ _ _))
local macro_rules | `(tactic| walk_at "truthy bytes") => `(tactic| (k_here; (refine' truthy_bytes ?kz ?_; (case kz => first | omega | (refine Nat.le_trans (KBc.size_picked_le _ _ _) ?_; omega)); k_whole)))
local macro_rules | `(tactic| walk_at "call builtin:len") => `(tactic| (k_here; (with_reducible show wpAny _ _ (call (Value.builtin "len") [Value.bytes _ _]) _ _ _); (refine' RB.len ?kz ?_; (case kz => first | omega | (refine Nat.le_trans (KBc.size_picked_le _ _ _) ?_; omega)); k_whole; intro _)))
local macro_rules | `(tactic| walk_at "StopDown") => `(tactic| exact stop_down_le_and)
local macro_rules | `(tactic| walk_at "call type:range") => `(tactic| ((with_reducible show wpAny _ _ (call _ [_]) _ _ _); (rename Fr _ _ _ _ => F'); (rename News _ _ _ _ => N'); (with_unfolding_all refine range1_rows F' N' ?_); intro _ _ _ _ _ _ _ _ _))
local macro_rules | `(tactic| walk_at "call builtin:str.join") => `(tactic| (k_here; k_dflt (refine' join_pieces ?kN ?hS ?hl ?hP ?_; (case kN => assumption); (case hS => assumption); (case hl => assumption); (case hP => assumption)); intro _ _ _))
local macro_rules | `(tactic| walk_at "InvEndN") => `(tactic| ((rename News _ _ _ _ => nE'); (try simp only [List.push_toArray] at nE'); (refine' path_close ?c1 nE' ?c2 ?c3 ?c4 ?c5; (case c1 => assumption); (case c2 => assumption); (case c3 => exact rfl); (case c4 => kst_same); (case c5 => k_extra "state"))))
set_option maxRecDepth 100000 in
set_option maxHeartbeats 8000000 in
theorem c_path {w mean mg mb} (x : Int) (f : Str) (t t₂ : Tok) (hf : f.length ≤ 3) (hfo : ∀ c ∈ f.cps.toList, c < 256) : CtrV w mean mg mb 157 1 10 [.int x t, .str f t₂] (fun R => ∃ r, r.length ≤ 1000 ∧ Oct r ∧ R = fun t => .str (RS r) t) := by
  w_top off
  k_with_none
  unfold CtrV
  k_fill
  intro dp un gd cn cs a ccd cl outer A₀ base h₀ L m news s Q E B F X N T hk hd hu hret
  have h4 := fmod_nn (x := if x < 0 then -x else x) (k := 4) (by omega)
  refine wpAny_call ?_
  k_dflt ktr_enter
  k_with_none
  k_with "state" => first | exact path_turn (fdiv_nn (by assumption) (by decide)) (by assumption) (by assumption) (ptab_piece _) | exact path_turn (fdiv_nn (by assumption) (by decide)) (by assumption) (by assumption) two_piece
  repeat' (first | (k_unfold; (try dsimp only)) | (k_end; wrow_close) | ((fail_if_success (with_reducible show wpAny _ _ (pyIter (Value.ref _)) (fun it s₂ => LoopAtV _ _ _ _ _ _ _ _ _ it s₂) _ _)); walk1) | ((fail_if_success (with_reducible show wpAny _ _ (pyIter (Value.ref _)) (fun it s₂ => LoopAtV _ _ _ _ _ _ _ _ _ it s₂) _ _)); dsimp only; walk1) | ((fail_if_success (with_reducible show wpAny _ _ (pyIter (Value.ref _)) (fun it s₂ => LoopAtV _ _ _ _ _ _ _ _ _ it s₂) _ _)); leave1; walk_say "STEP leave1"; try dsimp only))
  (with_reducible show wpAny _ _ (pyIter (Value.ref _)) (fun it s₂ => LoopAtV _ _ _ _ _ _ _ _ _ it s₂) _ _)
  k_here
  (rename Fr _ _ _ _ => lF'); (rename News _ _ _ _ => lN'); (rename IsRange _ _ _ _ _ _ _ _ => rgX)
  k_dflt refine' path_loop ?hh rgX ?hb0 ?hb1 lF' lN' ?hy ?hy0 ?turn ?done
  (case hh => exact rfl)
  (case hb0 => omega)
  (case hb1 => omega)
  (case hy => exact rfl)
  (case hy0 => exact abs_nn x)
  · intro y ty vs ps n pre k t u h tk own hk1 hk2 hoff hS hP kFr kNews
    obtain ⟨hP0, hP1, hP2⟩ := hP
    clear lF' lN'
    (try dsimp only [kstB] at kFr)
    (try simp only [List.nil_append, List.cons_append, List.append_nil] at kNews)
    (try simp only [List.map_cons, List.map_nil] at hoff)
    have kMark := kstMark
    try k_fold
    k_steps
  · intro y ty vs ps n u h tk hS hl hP kFr kNews
    clear lF' lN'
    (try dsimp only [kstB] at kFr)
    (try simp only [List.nil_append, List.cons_append, List.append_nil] at kNews)
    have kMark := kstMark
    try k_fold
    k_steps
    all_goals exact retV hret (path_end hf hfo (by assumption) (by assumption)) (by k_asm) (by first | k_asm | (refine' sub_of ?kN ?kS; (case kN => assumption); (case kS => kcj_all)))
end
section
open PySem.Calls
/-- the state of _law_reduce's word -/
def Red (l : List Nat) (x : Str) : Prop := x.length ≤ 10 ∧ (∀ c ∈ x.cps.toList, c = 66 ∨ c = 68 ∨ c = 69 ∨ c = 83 ∨ c = 90) ∧ ∀ r, sem x.cps.toList r = sem l r
def RedI (l : List Nat) (x₀ x : Str) (g : Bool) : Prop := Red l x ∧ ((g = false ∧ x = x₀) ∨ (g = true ∧ wt x.cps.toList < wt x₀.cps.toList))
theorem W_codes (x : Str) : x = W x.cps.toList := by unfold W; rw [Array.toArray_toList]
theorem W_list (u : List Nat) : (W u).cps.toList = u := rfl
theorem find_cut {x : Str} {p : List Nat} {k : Int} (e : k = Txt.find x (W p)) (h0 : 0 ≤ k) : k.toNat + p.length ≤ x.cps.toList.length ∧ x.cps.toList = x.cps.toList.take k.toNat ++ p ++ x.cps.toList.drop (k.toNat + p.length) := by
  unfold Txt.find at e
  cases ho : Builtin.Str.occurrences x (W p) 0 x.length 1 with
  | nil => rw [ho] at e; dsimp only at e; omega
  | cons i rest =>
    rw [ho] at e
    dsimp only at e
    subst e
    obtain ⟨h1, h2⟩ := StrLaws.occ_spec x (W p) 0 x.length 1 i (by rw [ho]; exact .head _)
    rw [W_len] at h1
    have hxl : x.length = x.cps.toList.length := by simp [Str.length]
    rw [Int.toNat_natCast]
    refine ⟨hxl ▸ h1, ?_⟩
    unfold Builtin.Str.subAt at h2
    rw [W_len, beq_iff_eq, ← Array.toList_inj, Array.toList_extract, List.extract_eq_take_drop, Nat.add_sub_cancel_left] at h2
    have h3 : (x.cps.toList.drop i).take p.length = p := h2
    have h4 := (List.take_append_drop i x.cps.toList).symm
    have h5 := (List.take_append_drop p.length (x.cps.toList.drop i)).symm
    rw [h3, List.drop_drop] at h5
    rw [List.append_assoc, ← h5]
    exact h4
theorem cutTo {x : Str} {k : Int} (h0 : 0 ≤ k) (h1 : k ≤ x.cps.toList.length) : Txt.slice x none (some k) = W (x.cps.toList.take k.toNat) := by
  have hxl : x.length = x.cps.toList.length := by simp [Str.length]
  rw [beq_iff_eq.mp (slice_closes_toL h0 (by rw [hxl]; exact h1))]
  unfold W
  rw [show (0 : Int).toNat = 0 from rfl, List.drop_zero, Int.sub_zero]
theorem cutFrom {x : Str} {k : Int} (h0 : 0 ≤ k) (h1 : k ≤ x.cps.toList.length) : Txt.slice x (some k) none = W (x.cps.toList.drop k.toNat) := by
  have hxl : x.length = x.cps.toList.length := by simp [Str.length]
  rw [slice_from_eq h0 (by rw [hxl]; exact h1) rfl, hxl]
  unfold W
  rw [List.take_of_length_le (by rw [List.length_drop]; omega)]
theorem rules_len {a b : List Nat} (h : (a, b) ∈ rules) : a.length = 2 ∧ b.length ≤ 2 ∧ ∀ c ∈ b, c = 66 ∨ c = 68 ∨ c = 69 ∨ c = 83 ∨ c = 90 := by
  have key : ∀ p ∈ rules, p.1.length = 2 ∧ p.2.length ≤ 2 ∧ ∀ c ∈ p.2, c = 66 ∨ c = 68 ∨ c = 69 ∨ c = 83 ∨ c = 90 := by decide +kernel
  exact key _ h
theorem red_apply {l a b : List Nat} {x x₀ : Str} {g : Bool} (hr : (a, b) ∈ rules) (hi : RedI l x₀ x g) (hg : g = false) (h0 : 0 ≤ Txt.find x (W a)) :
    RedI l x₀ (Txt.slice x none (some (Txt.find x (W a))) ++ W b ++ Txt.slice x (some (Txt.find x (W a) + 2)) none) true := by
  obtain ⟨h1, h2⟩ := find_cut rfl h0
  obtain ⟨ha, hb, hc⟩ := rules_len hr
  rw [ha] at h1 h2
  obtain ⟨⟨hx1, hx2, hx3⟩, hx4⟩ := hi
  have hx0 : x = x₀ := by
    rcases hx4 with ⟨_, e⟩ | ⟨e, _⟩
    · exact e
    · rw [hg] at e; cases e
  rw [cutTo h0 (by omega), cutFrom (by omega) (by omega), W_app, W_app, show (Txt.find x (W a) + 2).toNat = (Txt.find x (W a)).toNat + 2 from by omega]
  generalize (Txt.find x (W a)).toNat = k at h1 h2 ⊢
  have hxl : x.length = x.cps.toList.length := by simp [Str.length]
  refine ⟨⟨?_, fun c hcm => ?_, fun r => ?_⟩, .inr ⟨rfl, ?_⟩⟩
  · rw [W_len, List.length_append, List.length_append, List.length_take, List.length_drop]
    omega
  · rw [W_list] at hcm
    rcases List.mem_append.mp hcm with h | h
    · rcases List.mem_append.mp h with h | h
      · exact hx2 c (List.mem_of_mem_take h)
      · exact hc c h
    · exact hx2 c (List.mem_of_mem_drop h)
  · rw [W_list, rule_sem hr, ← h2]
    exact hx3 r
  · rw [W_list]
    have h3 := rule_wt hr (x.cps.toList.take k) (x.cps.toList.drop (k + 2))
    rw [← h2] at h3
    rw [← hx0]
    exact h3
theorem red_start {l : List Nat} (hl : Letters l) (hn : l.length ≤ 10) : Red l (W l) := by
  refine ⟨by rw [W_len]; exact hn, fun c hc => ?_, fun _ => rfl⟩
  have := hl c hc
  omega
section
variable {prog : Program} {w : World} {A : Around} {E : Value → Shared → Prop} {s : Shared} {env : Env} {h₀ : Heap} {target : Expr} {body : List Stmt} {Q : Flow → Shared → Prop} {I : Addr} {news : List (Addr × Obj)} {m₀ : Str → Option Value} {l : List Nat} {x₀ : Str}
def RedPs (x : Str) (t : Tok) (g : Bool) : List (Str × Value) := [(Str.ofString "word", .str x t), (Str.ofString "going", .bool g)]
def RedSt : List Str := [Str.ofString "left", Str.ofString "right", Str.ofString "k"]
def RedM (l : List Nat) (x₀ : Str) (m₀ m : Str → Option Value) : Prop :=
  ∃ x t g, (∀ p ∈ RedPs x t g, m p.1 = some p.2) ∧ (∀ z, (∀ p ∈ RedPs x t g, z ≠ p.1) → RedSt.contains z = false → m z = m₀ z) ∧ RedI l x₀ x g
theorem red_items {vs : List Value}
    (turn : ∀ v ∈ vs, ∀ x t g (u : Str → Option Value) h tk (oI : Obj), oI.cls = .type "tuple_iterator" → RedI l x₀ x g → Fr h₀ env.locals h (kstB (fun z => if RedSt.contains z then u z else m₀ z) (RedPs x t g)) → News h₀ env.locals h ((I, oI) :: news) →
      wpAny (model prog w) A (assign target env v) (fun _ s₂ => wpAny (model prog w) A (execs body env) (UnrPostW h₀ env.locals { s with heap := h, toks := tk } [(I, oI)] (fun m' n' => n' = news ∧ RedM l x₀ m₀ m') Q) E s₂) E { s with heap := h, toks := tk })
    (done : ∀ x t g (u : Str → Option Value) h tk, RedI l x₀ x g → Fr h₀ env.locals h (kstB (fun z => if RedSt.contains z then u z else m₀ z) (RedPs x t g)) → News h₀ env.locals h news → Q .next { s with heap := h, toks := tk }) :
    ∀ m, RedM l x₀ m₀ m → ItemsRest prog w A E h₀ env target body Q s [(I, "tuple_iterator")] [] (vs.map .val) m news := by
  induction vs with
  | nil =>
    intro m hm h tk F N
    obtain ⟨x, t, g, h1, h2, h3⟩ := hm
    exact done x t g m h tk h3 (ksw_fr h1 h2 F) N
  | cons v vs ih =>
    intro m hm
    obtain ⟨x, t, g, h1, h2, h3⟩ := hm
    refine ItemsRest.val fun h tk F o ho N => ?_
    refine wpAny_mono (turn v (.head _) x t g m h tk o ho h3 (ksw_fr h1 h2 F) N) (fun _ s₂ hq => wpAny_mono hq (fun f s₃ p => ?_) fun _ _ e => e) fun _ _ e => e
    have ih' := ih fun v' hv' => turn v' (.tail _ hv')
    have up : UnrEndW h₀ env.locals { s with heap := h, toks := tk } [(I, o)] (fun m' n' => n' = news ∧ RedM l x₀ m₀ m') s₃ →
        UnrEndW h₀ env.locals { s with heap := h, toks := tk } [(I, o)] (fun m' n' => SubL [] n' ∧ ItemsRest prog w A E h₀ env target body Q s [(I, "tuple_iterator")] [] (vs.map .val) m' n') s₃ := by
      rintro ⟨h', tk', m', news', e, F', N', ho', rfl, hM⟩
      exact ⟨h', tk', m', news', e, F', N', ho', trivial, ih' m' hM⟩
    cases f with
    | ret v => exact p
    | brk => exact p
    | next => exact up p
    | cont => exact up p
theorem red_close {h' : Heap} {L : Addr} {m' : Str → Option Value} {oI : Obj} {x : Str} {t : Tok} {g : Bool} {s₁ : Shared} {tk : Nat} (F : Fr h₀ L h' m') (N : News h₀ L h' ((I, oI) :: news)) (hlt : ∀ p ∈ news, p.1 < I) (hw : m' (Str.ofString "word") = some (.str x t)) (hg : m' (Str.ofString "going") = some (.bool g))
    (hr : ∀ z, (∀ p ∈ RedPs x t g, z ≠ p.1) → RedSt.contains z = false → m' z = m₀ z) (hp : RedI l x₀ x g) :
    UnrEndW h₀ L s₁ [(I, oI)] (fun m' n' => n' = news ∧ RedM l x₀ m₀ m') { s₁ with heap := h', toks := tk } :=
  ⟨h', tk, m', news, rfl, F, N, fun p hp q hq e => by
    rw [List.mem_singleton.mp hq] at e
    have h9 := hlt p hp
    rw [e] at h9
    exact Nat.lt_irrefl _ h9, rfl, x, t, g, List.forall_mem_cons.mpr ⟨hw, List.forall_mem_cons.mpr ⟨hg, List.forall_mem_nil _⟩⟩, hr, hp⟩
end
section
variable {prog : Program} {w : World} {A : Around} {E : Value → Shared → Prop} {s : Shared} {env : Env} {h₀ : Heap} {target : Expr} {body : List Stmt} {Q : Flow → Shared → Prop} {I : Addr} {news : List (Addr × Obj)} {m : Str → Option Value} {l : List Nat} {x₀ : Str} {t₀ : Tok}
abbrev RedVs : List Value := [.ref 141, .ref 142, .ref 143, .ref 144, .ref 145, .ref 146, .ref 147, .ref 148, .ref 149]
theorem red_loop (hw : m (Str.ofString "word") = some (.str x₀ t₀)) (hg : m (Str.ofString "going") = some (.bool false)) (hR : Red l x₀)
    (turn : ∀ v ∈ RedVs, ∀ x t g (u : Str → Option Value) h tk (oI : Obj), oI.cls = .type "tuple_iterator" → RedI l x₀ x g → Fr h₀ env.locals h (kstB (fun z => if RedSt.contains z then u z else m z) (RedPs x t g)) → News h₀ env.locals h ((I, oI) :: news) →
      wpAny (model prog w) A (assign target env v) (fun _ s₂ => wpAny (model prog w) A (execs body env) (UnrPostW h₀ env.locals { s with heap := h, toks := tk } [(I, oI)] (fun m' n' => n' = news ∧ RedM l x₀ m m') Q) E s₂) E { s with heap := h, toks := tk })
    (done : ∀ x t g (u : Str → Option Value) h tk, RedI l x₀ x g → Fr h₀ env.locals h (kstB (fun z => if RedSt.contains z then u z else m z) (RedPs x t g)) → News h₀ env.locals h news → Q .next { s with heap := h, toks := tk }) :
    ItemsRest prog w A E h₀ env target body Q s [(I, "tuple_iterator")] [] [.val (.ref 141), .val (.ref 142), .val (.ref 143), .val (.ref 144), .val (.ref 145), .val (.ref 146), .val (.ref 147), .val (.ref 148), .val (.ref 149)] m news :=
  red_items (vs := RedVs) turn done m ⟨x₀, t₀, false, List.forall_mem_cons.mpr ⟨hw, List.forall_mem_cons.mpr ⟨hg, List.forall_mem_nil _⟩⟩, fun _ _ _ => rfl, hR, .inl ⟨rfl, rfl⟩⟩
end
theorem RedI.len {l : List Nat} {x₀ x : Str} {g : Bool} (h : RedI l x₀ x g) : x.length ≤ 10 := h.1.1
theorem RedI.red {l : List Nat} {x₀ x : Str} {g : Bool} (h : RedI l x₀ x g) : Red l x := h.1
theorem red_applyL {l a b : List Nat} {A B x x₀ : Str} {g : Bool} (hr : (a, b) ∈ rules) (hA : A = W a) (hB : B = W b) (hi : RedI l x₀ x g) (hg : g = false) (h0 : 0 ≤ Txt.find x A) :
    RedI l x₀ (Txt.slice x none (some (Txt.find x A)) ++ B ++ Txt.slice x (some (Txt.find x A + 2)) none) true := by
  subst hA hB
  exact red_apply hr hi hg h0
theorem red_meas {l : List Nat} {x₀ x : Str} {g s : Bool} (h : RedI l x₀ x g) (hs : s = true) : 2 * wt x.cps.toList + (if g = true then 1 else 0) < 2 * wt x₀.cps.toList + (if s = true then 1 else 0) := by
  subst hs
  rcases h.2 with ⟨rfl, rfl⟩ | ⟨rfl, h⟩
  · simp
  · simp
    omega
theorem red_endZ {l : List Nat} {x : Str} (h : Red l x) (ho : (Builtin.Str.occurrences x (Str.ofString "Z") 0 x.length 1).isEmpty = false) :
    ∃ l', (Letters l' ∨ l' = [90]) ∧ l'.length ≤ 10 ∧ (∀ r, sem l' r = sem l r) ∧ (fun t : Tok => Value.str (Str.ofString "Z") t) = fun t => .str (W l') t := by
  refine ⟨[90], .inr rfl, by simp, fun r => ?_, by rw [show Str.ofString "Z" = W [90] from by decide +kernel]⟩
  have hf := StrLaws.found_one x 90
  rw [Z_eq] at ho
  rw [ho] at hf
  have hm : 90 ∈ x.cps.toList := by simpa using hf
  rw [← h.2.2 r, sem_Z hm]
  rfl
theorem red_endN {l : List Nat} {x : Str} (h : Red l x) (ho : (Builtin.Str.occurrences x (Str.ofString "Z") 0 x.length 1).isEmpty = true) :
    ∃ l', (Letters l' ∨ l' = [90]) ∧ l'.length ≤ 10 ∧ (∀ r, sem l' r = sem l r) ∧ (fun t : Tok => Value.str x t) = fun t => .str (W l') t := by
  refine ⟨x.cps.toList, .inl fun c hc => ?_, h.1, h.2.2, by rw [← W_codes]⟩
  have hf := StrLaws.found_one x 90
  rw [Z_eq] at ho
  rw [ho] at hf
  have hm : 90 ∉ x.cps.toList := by simpa using hf
  have h2 := h.2.1 c hc
  have h3 : c ≠ 90 := fun e => hm (e ▸ hc)
  omega
end
section
open PySem.Calls
local macro_rules | `(tactic| walk_at "call type:type") => `(tactic| (k_here; (with_reducible show wpAny _ _ (call (Value.type "type") [Value.bytes _ _]) _ _ _); refine call_type_of (Tx := "bytes") rfl (by decide +kernel) ?_))
local macro_rules | `(tactic| walk_at "call builtin:issubclass") => `(tactic| (k_here; k_dflt (first
  | (refine' issub_SN ?k1 ?k2 ?_; (case k1 => k_asm); (case k2 => k_mem); k_whole)
  | (refine' issub_BN ?k1 ?k2 ?_; (case k1 => k_asm); (case k2 => k_mem); k_whole))))
local macro_rules | `(tactic| walk_at "getMethod bytes") => `(tactic| with_reducible refine RB.m_rfind ?_)
local macro_rules | `(tactic| walk_at "getMethod bytes") => `(tactic| with_reducible refine RB.m_rstrip ?_)
local macro_rules | `(tactic| walk_at "call builtin:bytes.rfind") => `(tactic| refine RB.rfind ?_)
local macro_rules | `(tactic| walk_at "call builtin:bytes.rstrip") => `(tactic| (refine' RB.rstrip ?_ ?kz; (case kz => first | omega | (refine Nat.le_trans (KBc.size_picked_le _ _ _) ?_; omega)); k_whole; intro _ _))
local macro_rules | `(tactic| walk_at "subscriptTail") => `(tactic| (k_here; (with_reducible show wpAny _ _ (subscriptTail _ (Expr.Slice _ _ none _) (Value.bytes _ _) (Value.ref _)) _ _ _); (with_reducible rename Fr _ _ _ _ => F'); (with_reducible rename News _ _ _ _ => N'); (refine' RB.slice (s := ⟨_, _, _, _, _⟩) F' N' ?kl ?ku ?kz ?_; (case kl => constructor); (case ku => constructor); (case kz => first | omega | (refine Nat.le_trans (KBc.size_picked_le _ _ _) ?_; omega)); k_whole); intro _ _ _ _ _))
local macro_rules | `(tactic| walk_at "truthy bytes") => `(tactic| (k_here; (refine' truthy_bytes ?kz ?_; (case kz => first | omega | (refine Nat.le_trans (KBc.size_picked_le _ _ _) ?_; omega)); k_whole)))
local macro_rules | `(tactic| walk_at "call builtin:len") => `(tactic| (k_here; (with_reducible show wpAny _ _ (call (Value.builtin "len") [Value.bytes _ _]) _ _ _); (refine' RB.len ?kz ?_; (case kz => first | omega | (refine Nat.le_trans (KBc.size_picked_le _ _ _) ?_; omega)); k_whole; intro _)))
local macro_rules | `(tactic| walk_at "StopDown") => `(tactic| exact stop_down_le_and)
local macro_rules | `(tactic| walk_at "ItemsRest") => `(tactic| (k_here; k_dflt (refine' red_loop ?hw ?hg ?hR ?_ ?_; (case hw => with_unfolding_all exact rfl); (case hg => with_unfolding_all exact rfl); (case hR => assumption); rotate_left; (intro x9 t9 g9 u9 h9 tk9 hI9 kFr kNews; (try dsimp only [kstB, RedPs, RedSt] at kFr); have kMark := kstMark; have hx9 := RedI.len hI9; (try k_fold)); rotate_left; ((intro v9 hv9; (simp only [RedVs, List.mem_cons, List.not_mem_nil, or_false] at hv9); (rcases hv9 with e9 | e9 | e9 | e9 | e9 | e9 | e9 | e9 | e9) <;> (subst e9; intro x9 t9 g9 u9 h9 tk9 oI9 hc9 hI9 kFr kNews; (try dsimp only [kstB, RedPs, RedSt] at kFr); have kMark := kstMark; have hx9 := RedI.len hI9; (try k_fold)))))))
local macro_rules | `(tactic| walk_at "UnrEndW") => `(tactic| (k_dflt ((rename News _ _ _ _ => nE'); (refine' red_close ?c1 nE' ?c2 ?c3 ?c4 ?c5 ?c6; (case c1 => assumption); (case c2 => assumption); (case c3 => with_unfolding_all exact rfl); (case c4 => with_unfolding_all exact rfl); (case c5 => (intro z h2 h3; dsimp only [RedPs, RedSt] at h2 h3; (simp only [List.forall_mem_cons, List.not_mem_nil, false_implies, implies_true, and_true, ne_eq] at h2); (simp only [List.contains_cons, List.contains_nil, Bool.or_false, Bool.or_eq_false_iff, beq_eq_false_iff_ne, ne_eq] at h3); (simp [h2, h3, RedSt]; done))); (case c6 => k_extra "state2")))))
set_option maxRecDepth 100000 in
set_option maxHeartbeats 8000000 in
theorem c_reduce {w mean mg mb} (l : List Nat) (t : Tok) (hl : Letters l) (hn : l.length ≤ 10) : CtrV w mean mg mb 171 1 10 [.str (W l) t] (fun R => ∃ l', (Letters l' ∨ l' = [90]) ∧ l'.length ≤ 10 ∧ (∀ r, sem l' r = sem l r) ∧ R = fun t => .str (W l') t) := by
  w_top off
  k_with_none
  unfold CtrV
  k_fill
  intro dp un gd cn cs a ccd cl outer A₀ base h₀ L m news s Q E B F X N T hk hd hu hret
  refine wpAny_call ?_
  k_dflt ktr_enter
  k_with_none
  k_with "exec While BoolOp cons nil" => k_while (fun _ (word : Str) (going : Bool) => Red l word) (fun _ word going => 2 * wt word.cps.toList + (if going = true then 1 else 0)) "word" "going"
  k_with "state" => first | exact red_start hl hn | exact RedI.red (by assumption)
  k_with "measure" => exact red_meas (by assumption) (by assumption)
  k_with "state2" => first
    | assumption
    | exact red_applyL (a := [66, 66]) (b := [66]) (by decide +kernel) (by decide +kernel) (by decide +kernel) (by assumption) (by assumption) (by assumption)
    | exact red_applyL (a := [66, 69]) (b := [69]) (by decide +kernel) (by decide +kernel) (by decide +kernel) (by assumption) (by assumption) (by assumption)
    | exact red_applyL (a := [83, 66]) (b := [66, 83]) (by decide +kernel) (by decide +kernel) (by decide +kernel) (by assumption) (by assumption) (by assumption)
    | exact red_applyL (a := [68, 66]) (b := [90]) (by decide +kernel) (by decide +kernel) (by decide +kernel) (by assumption) (by assumption) (by assumption)
    | exact red_applyL (a := [68, 69]) (b := [90]) (by decide +kernel) (by decide +kernel) (by decide +kernel) (by assumption) (by assumption) (by assumption)
    | exact red_applyL (a := [68, 83]) (b := [68]) (by decide +kernel) (by decide +kernel) (by decide +kernel) (by assumption) (by assumption) (by assumption)
    | exact red_applyL (a := [69, 66]) (b := [69]) (by decide +kernel) (by decide +kernel) (by decide +kernel) (by assumption) (by assumption) (by assumption)
    | exact red_applyL (a := [69, 69]) (b := [90]) (by decide +kernel) (by decide +kernel) (by decide +kernel) (by assumption) (by assumption) (by assumption)
    | exact red_applyL (a := [83, 69]) (b := [69]) (by decide +kernel) (by decide +kernel) (by decide +kernel) (by assumption) (by assumption) (by assumption)
  k_steps
  all_goals first
    | exact retV hret (red_endZ (by assumption) (by assumption)) (by k_asm) (by k_asm)
    | exact retV hret (red_endN (by assumption) (by assumption)) (by k_asm) (by k_asm)
end
section
open PySem.Calls
theorem eqGives_bytes (a b : Array UInt8) (t u : Tok) : MeetsSeq.EqGives (.bytes a t) (.bytes b u) (decide (a.toList = b.toList)) := fun _ _ _ _ _ _ h => eqBool_bytes h
def isBytesOf (k : Array UInt8) : Value → Bool
  | .bytes i _ => decide (i.toList = k.toList)
  | _ => false
inductive BytesAre : List Value → List (Array UInt8) → Prop
  | nil : BytesAre [] []
  | cons (n : Array UInt8) (t : Tok) {vs ns} : BytesAre vs ns → BytesAre (.bytes n t :: vs) (n :: ns)
theorem BytesAre.append' : ∀ {vs ws : List Value} {ns ms : List (Array UInt8)}, BytesAre vs ns → BytesAre ws ms → BytesAre (vs ++ ws) (ns ++ ms)
  | _, _, _, _, .nil, h => h
  | _, _, _, _, .cons n t x, h => .cons n t (x.append' h)
theorem any_isBytesOf (k : Array UInt8) : ∀ {vs : List Value} {ys : List (Array UInt8)}, BytesAre vs ys → vs.any (isBytesOf k) = ys.any fun y => decide (y.toList = k.toList)
  | _, _, .nil => rfl
  | _, _, .cons n t h => by simp only [List.any_cons, isBytesOf, any_isBytesOf k h]
theorem eq_isBytesOf (k : Array UInt8) (t : Tok) : ∀ {vs : List Value} {ys : List (Array UInt8)}, BytesAre vs ys → ∀ y, y ∈ vs → MeetsSeq.EqGives y (.bytes k t) (isBytesOf k y)
  | _, _, .nil, _, hy => nomatch hy
  | _, _, .cons n u h, y, hy => by
    rcases List.mem_cons.mp hy with rfl | hy
    · exact eqGives_bytes n k u t
    · exact eq_isBytesOf k t h y hy
section
variable {prog : Program} {w : World} {A : Around} {E : Value → Shared → Prop} {s : Shared}
theorem in_list_bytes {l : Addr} {vs : List Value} {ys : List (Array UInt8)} {k : Array UInt8} {t : Tok} {Q : Value → Shared → Prop} (hl : s.heap.IsList l vs.toArray) (hi : BytesAre vs ys)
    (h : Q (.bool (ys.any fun y => decide (y.toList = k.toList))) s) : wpAny (model prog w) A (compareOp .In (.bytes k t) (.ref l)) Q E s :=
  SeqInW.in_listW (isBytesOf k) (fun y hy => eq_isBytesOf k t hi y (by simpa using hy)) hl (by rw [← Array.any_toList, show vs.toArray.toList = vs from rfl, any_isBytesOf k hi]; exact h)
theorem ne_sameS {x y : Str} {t u : Tok} {Q : Value → Shared → Prop} (e : x = y) (h : Q (.bool false) s) : wpAny (model prog w) A (compareOp .NotEq (.str x t) (.str y u)) Q E s := by
  subst e
  have h2 : (x != x) = false := by simp
  exact ne_str (by rw [h2]; exact h)
theorem ne_sameY {x y : Array UInt8} {t u : Tok} {Q : Value → Shared → Prop} (e : x = y) (h : Q (.bool false) s) : wpAny (model prog w) A (compareOp .NotEq (.bytes x t) (.bytes y u)) Q E s := by
  subst e
  have h2 : (x.toList != x.toList) = false := by simp
  exact ne_bytes (by rw [h2]; exact h)
end
section
variable {prog : Program} {w : World} {A : Around} {E : Value → Shared → Prop} {s : Shared} {env : Env} {h₀ : Heap} {x : Str} {body : List Stmt} {Q : Flow → Shared → Prop} {target : Expr} {I : Addr}
/-- the law's loop by twos: what it stores is forgotten -/
theorem loop2 {r : Addr} {b₀ : Int} {t₀ u₀ v₀ : Tok} {m₀ : Str → Option Value} {news : List (Addr × Obj)} (stored : List Str)
    (hh : A.handled = none) (hr : IsRange s.heap r 0 b₀ 2 t₀ u₀ v₀) (hb0 : 0 ≤ b₀) (hb1 : b₀ ≤ 1000) (F : Fr h₀ env.locals s.heap m₀) (N : News h₀ env.locals s.heap news)
    (turn : ∀ (k : Int) t (u : Str → Option Value) h tk own, 0 ≤ k → k < b₀ → OwnOff own (news.map (·.1)) →
      Fr h₀ env.locals h (fun y => if y = x then some (.int k t) else if stored.contains y then u y else m₀ y) → News h₀ env.locals h (news ++ own) →
      wpAny (model prog w) A (execs body env) (InvPostN h₀ env.locals (fun m nx => nx = news ∧ ∀ z, z ≠ x → stored.contains z = false → m z = m₀ z) own (news.map (·.1)) { s with heap := h, toks := tk } Q) E { s with heap := h, toks := tk })
    (done : ∀ (u : Str → Option Value) h tk, Fr h₀ env.locals h (fun y => if y = x then u y else if stored.contains y then u y else m₀ y) → News h₀ env.locals h news → Q .next { s with heap := h, toks := tk }) :
    wpAny (model prog w) A (pyIter (.ref r)) (fun it s₂ => LoopAtV prog w A h₀ env x body Q E it s₂) E s := by
  have hsz : Builtin.Range.rangeSize 0 b₀ 2 = (((b₀ + 1) / 2).toNat : Int) := by
    unfold Builtin.Range.rangeSize
    rw [if_pos (by decide)]
    split <;> omega
  have hsmall : Builtin.Range.small 0 b₀ 2 = true := by
    unfold Builtin.Range.small
    rw [hsz]
    simp [Builtin.Range.rangeFitsLong]
    omega
  refine wpAny_pyIter_range hr hsmall ?_
  have W : Walks prog w A s.heap.objs.size [s.heap.objs.size] [s.heap.objs.size] ((b₀ + 1) / 2).toNat (fun i v => i < ((b₀ + 1) / 2).toNat ∧ ∃ t, v = .int (0 + i * 2) t)
      (fun i h => IsRangeIter h s.heap.objs.size (0 + (i : Nat) * 2) (((((b₀ + 1) / 2).toNat : Nat) : Int) - (i : Nat)) 2) := (Walks.range hh _ 0 2 _).bound
  refine loop_invN (fun i m nx => nx = news ∧ ∀ z, z ≠ x → stored.contains z = false → m z = m₀ z) W ?_ ?_ ?_ ?_ (by show IsRangeIter _ _ _ _ _; rw [hsz]; simpa using Heap.get?_push_size _ rfl) (F.push _) (fun p hp => ⟨Heap.get?_push_of_some _ (N p hp).1, (N p hp).2⟩) ⟨rfl, fun _ _ _ => rfl⟩ ?_ ?_
  · intro hm
    exact absurd F.ns.lt ((List.mem_singleton.mp hm) ▸ Nat.lt_irrefl _)
  · intro b hb
    rw [List.mem_singleton.mp hb]
    exact next_is_new F
  · intro p hp hI
    exact absurd (Heap.lt_size (N p hp).1) ((List.mem_singleton.mp hI) ▸ Nat.lt_irrefl _)
  · intro p hp hI
    exact absurd (Heap.lt_size (N p hp).1) ((List.mem_singleton.mp hI) ▸ Nat.lt_irrefl _)
  · rintro i v m₁ nx h tk own hi ⟨_, t, rfl⟩ _ hoff ⟨rfl, h2⟩ F₁ N₁
    have em : (fun y => if y = x then some (Value.int (0 + (i : Int) * 2) t) else m₁ y) = fun y => if y = x then some (Value.int (0 + (i : Int) * 2) t) else if stored.contains y then m₁ y else m₀ y := by
      funext y
      by_cases hy : y = x
      · rw [if_pos hy, if_pos hy]
      · rw [if_neg hy, if_neg hy]
        cases h3 : stored.contains y with
        | true => simp
        | false => simp only [Bool.false_eq_true, if_false]; exact h2 y hy h3
    rw [em] at F₁
    exact turn _ t m₁ h tk own (by omega) (by omega) hoff F₁ N₁
  · rintro m₁ nx h tk ⟨rfl, h2⟩ F₁ N₁
    refine done m₁ h tk ?_ N₁
    have em : m₁ = fun y => if y = x then m₁ y else if stored.contains y then m₁ y else m₀ y := by
      funext y
      by_cases hy : y = x
      · rw [if_pos hy]
      · rw [if_neg hy]
        cases h3 : stored.contains y with
        | true => simp
        | false => simp only [Bool.false_eq_true, if_false]; exact h2 y hy h3
    rw [← em]
    exact F₁
theorem loop2_close {h' : Heap} {L : Addr} {m₀ m' : Str → Option Value} {news own : List (Addr × Obj)} {stored : List Str} {s₁ : Shared} {tk : Nat} (F : Fr h₀ L h' m') {all : List (Addr × Obj)} (N : News h₀ L h' all) (hn : ∀ p ∈ news, p ∈ all) (ho : ∀ p ∈ own, p ∈ all)
    (hr : ∀ z, z ≠ x → stored.contains z = false → m' z = m₀ z) :
    InvEndN h₀ L (fun m nx => nx = news ∧ ∀ z, z ≠ x → stored.contains z = false → m z = m₀ z) own (news.map (·.1)) s₁ { s₁ with heap := h', toks := tk } :=
  InvEndN.intro F N ⟨rfl, hr⟩ rfl hn ho
/-- a loop over a written tuple: what it stores is forgotten -/
theorem items_calm (stored : List Str) {vs : List Value} {m₀ : Str → Option Value} {news : List (Addr × Obj)}
    (turn : ∀ v ∈ vs, ∀ (u : Str → Option Value) h tk (oI : Obj), oI.cls = .type "tuple_iterator" → Fr h₀ env.locals h (fun z => if stored.contains z then u z else m₀ z) → News h₀ env.locals h ((I, oI) :: news) →
      wpAny (model prog w) A (assign target env v) (fun _ s₂ => wpAny (model prog w) A (execs body env) (UnrPostW h₀ env.locals { s with heap := h, toks := tk } [(I, oI)] (fun m' n' => n' = news ∧ ∀ z, stored.contains z = false → m' z = m₀ z) Q) E s₂) E { s with heap := h, toks := tk })
    (done : ∀ (u : Str → Option Value) h tk, Fr h₀ env.locals h (fun z => if stored.contains z then u z else m₀ z) → News h₀ env.locals h news → Q .next { s with heap := h, toks := tk }) :
    ∀ m, (∀ z, stored.contains z = false → m z = m₀ z) → ItemsRest prog w A E h₀ env target body Q s [(I, "tuple_iterator")] [] (vs.map .val) m news := by
  have fr : ∀ {h : Heap} {m : Str → Option Value}, (∀ z, stored.contains z = false → m z = m₀ z) → Fr h₀ env.locals h m → Fr h₀ env.locals h (fun z => if stored.contains z then m z else m₀ z) := by
    intro h m hm F
    have em : (fun z => if stored.contains z then m z else m₀ z) = m := by
      funext y
      cases h3 : stored.contains y with
      | true => simp
      | false => simp only [Bool.false_eq_true, if_false]; exact (hm y h3).symm
    rw [em]
    exact F
  induction vs with
  | nil =>
    intro m hm h tk F N
    exact done m h tk (fr hm F) N
  | cons v vs ih =>
    intro m hm
    refine ItemsRest.val fun h tk F o ho N => ?_
    refine wpAny_mono (turn v (.head _) m h tk o ho (fr hm F) N) (fun _ s₂ hq => wpAny_mono hq (fun f s₃ p => ?_) fun _ _ e => e) fun _ _ e => e
    have ih' := ih fun v' hv' => turn v' (.tail _ hv')
    have up : UnrEndW h₀ env.locals { s with heap := h, toks := tk } [(I, o)] (fun m' n' => n' = news ∧ ∀ z, stored.contains z = false → m' z = m₀ z) s₃ →
        UnrEndW h₀ env.locals { s with heap := h, toks := tk } [(I, o)] (fun m' n' => SubL [] n' ∧ ItemsRest prog w A E h₀ env target body Q s [(I, "tuple_iterator")] [] (vs.map .val) m' n') s₃ := by
      rintro ⟨h', tk', m', news', e, F', N', ho', rfl, hM⟩
      exact ⟨h', tk', m', news', e, F', N', ho', trivial, ih' m' hM⟩
    cases f with
    | ret v => exact p
    | brk => exact p
    | next => exact up p
    | cont => exact up p
theorem calm_close {h' : Heap} {L : Addr} {m₀ m' : Str → Option Value} {news all : List (Addr × Obj)} {stored : List Str} {oI : Obj} {s₁ : Shared} {tk : Nat} (F : Fr h₀ L h' m') (N : News h₀ L h' all) (hn : ∀ p ∈ (I, oI) :: news, p ∈ all) (hlt : ∀ p ∈ news, p.1 ≠ I)
    (hr : ∀ z, stored.contains z = false → m' z = m₀ z) :
    UnrEndW h₀ L s₁ [(I, oI)] (fun m' n' => n' = news ∧ ∀ z, stored.contains z = false → m' z = m₀ z) { s₁ with heap := h', toks := tk } :=
  ⟨h', tk, m', news, rfl, F, fun p hp => N p (hn p hp), fun p hp q hq e => by
    rw [List.mem_singleton.mp hq] at e
    exact hlt p hp e, rfl, hr⟩
end
def NumPost (h₀ : Heap) (L : Addr) (m : Str → Option Value) (s : Shared) (v : Value) (s' : Shared) : Prop :=
  ∃ l vs ns n h' tk, v = .ref l ∧ s' = { s with heap := h', toks := tk } ∧ Fr h₀ L h' m ∧ News h₀ L h' [(l, PySem.W.listOf vs.toArray n)] ∧ IntsAre vs ns ∧ 2 ≤ ns.length ∧ ns.length ≤ 14
theorem num_join {M : Model} {A : Around} {E : Value → Shared → Prop} {s : Shared} {env : Env} {e : Expr} {h₀ : Heap} {L : Addr} {m : Str → Option Value} {Q : Value → Shared → Prop} (F : Fr h₀ L s.heap m)
    (hev : wpAny M A (eval e env) (NumPost h₀ L m s) E s)
    (h : ∀ l vs ns n h' tk, Fr h₀ L h' m → News h₀ L h' [(l, PySem.W.listOf vs.toArray n)] → IntsAre vs ns → 2 ≤ ns.length → ns.length ≤ 14 → Q (.ref l) { s with heap := h', toks := tk }) : wpAny M A (eval e env) Q E s :=
  wpAny_mono hev (fun v s' hp => by
    obtain ⟨l, vs, ns, n, h', tk, rfl, rfl, F, N, hi, h1, h2⟩ := hp
    exact h l vs ns n h' tk F N hi h1 h2) fun _ _ e => e
end
section
open PySem.Calls
abbrev wit : List Nat := [108, 46, 107, 46, 106, 46, 105, 47, 104, 46, 103, 46, 102, 46, 101, 47, 100, 46, 99, 46, 98, 46, 97, 47]
theorem wit_eq : Str.ofString "/a.b.c.d/e.f.g.h/i.j.k.l" = RS wit := by decide +kernel
theorem wit_oct : Oct wit := by decide +kernel
theorem wit_len : wit.length ≤ 1000 := by decide
theorem c_kindWS {w mean mg mb} (x : Str) (t : Tok) (e : x = RS wit) : CtrV w mean mg mb 211 1 10 [.str x t, .bool false] (fun R => R = fun t => .str (RS wit) t) := by
  subst e
  exact c_kindF _ t
theorem c_kindWY {w mean mg mb} (x : Str) (t : Tok) (e : x = RS wit) : CtrV w mean mg mb 211 1 10 [.str x t, .bool true] (fun R => R = fun t => .bytes (RY wit) t) := by
  subst e
  exact c_kindT wit t wit_len wit_oct
theorem c_kindES {w mean mg mb} (t : Tok) : CtrV w mean mg mb 211 1 10 [.str (Str.ofString "") t, .bool false] (fun R => R = fun t => .str (RS []) t) := by
  rw [empty_RS]
  exact c_kindF _ t
theorem c_doneSX {w mean mg mb} (x : Str) (r : List Nat) (t t₂ : Tok) (hr : r.length ≤ 1000) (hl : Letters x.cps.toList) (hn : x.cps.toList.length ≤ 100) : CtrV w mean mg mb 218 5 50 [.str x t₂, .str (RS r) t, .bool false] (fun R => R = fun t => .str (RS (sem x.cps.toList r)) t) := by
  have h := c_doneS (w := w) (mean := mean) (mg := mg) (mb := mb) x.cps.toList r t t₂ hr hl hn
  rw [← W_codes] at h
  exact h
theorem c_doneYX {w mean mg mb} (x : Str) (r : List Nat) (t t₂ : Tok) (hr : r.length ≤ 1000) (ho : Oct r) (hl : Letters x.cps.toList) (hn : x.cps.toList.length ≤ 100) : CtrV w mean mg mb 218 5 50 [.str x t₂, .bytes (RY r) t, .bool true] (fun R => R = fun t => .bytes (RY (sem x.cps.toList r)) t) := by
  have h := c_doneY (w := w) (mean := mean) (mg := mg) (mb := mb) x.cps.toList r t t₂ hr ho hl hn
  rw [← W_codes] at h
  exact h
theorem c_doneZSX {w mean mg mb} (z : Str) (x : Str) (t t₂ : Tok) (e : z = W [90]) : CtrV w mean mg mb 218 5 50 [.str z t₂, .str x t, .bool false] (fun R => R = fun t => .str (RS []) t) := by
  subst e
  exact c_doneZS x t t₂
theorem c_doneZYX {w mean mg mb} (z : Str) (x : Array UInt8) (t t₂ : Tok) (e : z = W [90]) : CtrV w mean mg mb 218 5 50 [.str z t₂, .bytes x t, .bool true] (fun R => R = fun t => .bytes (RY []) t) := by
  subst e
  exact c_doneZY x t t₂
theorem front_len {z : Int} : (Txt.mul (Str.ofString "/") (z.fmod 4)).length ≤ 3 := by
  have h := fmod_nn (x := z) (k := 4) (by omega)
  rw [show z.fmod 4 = (((z.fmod 4).toNat : Nat) : Int) from by omega, mulS, RS_len, List.length_replicate]
  omega
theorem front_codes {z : Int} : ∀ c ∈ (Txt.mul (Str.ofString "/") (z.fmod 4)).cps.toList, c < 256 := by
  have h := fmod_nn (x := z) (k := 4) (by omega)
  rw [show z.fmod 4 = (((z.fmod 4).toNat : Nat) : Int) from by omega, mulS, RS_list, List.reverse_replicate]
  intro c hc
  rw [List.eq_of_mem_replicate hc]
  omega
theorem eqS1 {l l' r : List Nat} (h : ∀ r, sem l' r = sem l r) : RS (sem l r) = RS (sem l' r) := by rw [h]
theorem eqSZ {l r : List Nat} (h : ∀ r, sem [90] r = sem l r) : RS (sem l r) = RS [] := by rw [← h]; rfl
theorem eqY1 {l l' r : List Nat} (h : ∀ r, sem l' r = sem l r) : RY (sem l r) = RY (sem l' r) := by rw [h]
theorem eqYZ {l r : List Nat} (h : ∀ r, sem [90] r = sem l r) : RY (sem l r) = RY [] := by rw [← h]; rfl
theorem rule_lit {A B : Str} (h : (A.cps.toList, B.cps.toList) ∈ rules) (r : List Nat) : sem A.cps.toList r = sem B.cps.toList r := rules_sem h r
theorem rule_litZ {A : Str} (h : (A.cps.toList, [90]) ∈ rules) (r : List Nat) : sem A.cps.toList r = [] := (rules_sem h r).trans rfl
theorem bool_split {M : Model} {A : Around} {E : Value → Shared → Prop} {s : Shared} {env : Env} {x : Str} {b : Bool} {Q : Unit → Shared → Prop}
    (ht : b = true → wpAny M A (storeName env x (.bool true)) Q E s) (hf : b = false → wpAny M A (storeName env x (.bool false)) Q E s) : wpAny M A (storeName env x (.bool b)) Q E s := by
  cases b
  · exact hf rfl
  · exact ht rfl
section
variable {prog : Program} {w : World} {A : Around} {E : Value → Shared → Prop} {s : Shared}
theorem in_noS {h₀ : Heap} {L l : Addr} {news : List (Addr × Obj)} {vs : List Value} {n : Nat} {ys : List Str} {k : Str} {t : Tok} {Q : Value → Shared → Prop} (N : News h₀ L s.heap news) (hm : (l, PySem.W.listOf vs.toArray n) ∈ news) (hi : StrsAre vs ys)
    (hno : (ys.any (· == k)) = false) (h : Q (.bool false) s) : wpAny (model prog w) A (compareOp .In (.str k t) (.ref l)) Q E s :=
  in_list_strs ⟨_, (N _ hm).1, rfl, _, rfl⟩ hi (by rw [hno]; exact h)
theorem in_noY {h₀ : Heap} {L l : Addr} {news : List (Addr × Obj)} {vs : List Value} {n : Nat} {ys : List (Array UInt8)} {k : Array UInt8} {t : Tok} {Q : Value → Shared → Prop} (N : News h₀ L s.heap news) (hm : (l, PySem.W.listOf vs.toArray n) ∈ news) (hi : BytesAre vs ys)
    (hno : (ys.any fun y => decide (y.toList = k.toList)) = false) (h : Q (.bool false) s) : wpAny (model prog w) A (compareOp .In (.bytes k t) (.ref l)) Q E s :=
  in_list_bytes ⟨_, (N _ hm).1, rfl, _, rfl⟩ hi (by rw [hno]; exact h)
end
end
section
open PySem.Calls
theorem lt_news {l i : Addr} {o : Obj} {own : List (Addr × Obj)} (h : l < i ∧ AllLt i own) : ∀ p ∈ (l, o) :: own, p.1 ≠ i := by
  intro p hp e
  rcases List.mem_cons.mp hp with rfl | hp
  · exact Nat.lt_irrefl _ (e ▸ h.1)
  · exact Nat.lt_irrefl _ (e ▸ kst_ltOf h.2 p hp)
def RuleIn (h₀ : Heap) (L I : Addr) (oI : Obj) (m₀ : Str → Option Value) (news : List (Addr × Obj)) (s : Shared) (s₂ : Shared) : Prop :=
  ∃ (X Y : Str) (t u : Tok) (h' : Heap) (tk' : Nat), (X.cps.toList, Y.cps.toList) ∈ rules ∧ s₂ = { s with heap := h', toks := tk' } ∧
    Fr h₀ L h' (fun z => if z = Str.ofString "right" then some (.str Y u) else if z = Str.ofString "left" then some (.str X t) else m₀ z) ∧ News h₀ L h' ((I, oI) :: news)
section
variable {prog : Program} {w : World} {A : Around} {E : Value → Shared → Prop} {s : Shared} {env : Env} {h₀ : Heap} {body : List Stmt} {Q : Flow → Shared → Prop} {target : Expr} {I : Addr}
theorem rules_calm (stored : List Str) {m₀ : Str → Option Value} {news : List (Addr × Obj)}
    (bind : ∀ v ∈ RedVs, ∀ (u : Str → Option Value) h tk (oI : Obj), oI.cls = .type "tuple_iterator" → Fr h₀ env.locals h (fun z => if stored.contains z then u z else m₀ z) → News h₀ env.locals h ((I, oI) :: news) →
      wpAny (model prog w) A (assign target env v) (fun _ s₂ => RuleIn h₀ env.locals I oI (fun z => if stored.contains z then u z else m₀ z) news { s with heap := h, toks := tk } s₂) E { s with heap := h, toks := tk })
    (turn : ∀ (X Y : Str) t t' (u : Str → Option Value) h tk (oI : Obj), (X.cps.toList, Y.cps.toList) ∈ rules → oI.cls = .type "tuple_iterator" → Fr h₀ env.locals h (fun z => if z = Str.ofString "right" then some (.str Y t') else if z = Str.ofString "left" then some (.str X t) else if stored.contains z then u z else m₀ z) → News h₀ env.locals h ((I, oI) :: news) →
      wpAny (model prog w) A (execs body env) (UnrPostW h₀ env.locals { s with heap := h, toks := tk } [(I, oI)] (fun m' n' => n' = news ∧ ∀ z, stored.contains z = false → m' z = m₀ z) Q) E { s with heap := h, toks := tk })
    (done : ∀ (u : Str → Option Value) h tk, Fr h₀ env.locals h (fun z => if stored.contains z then u z else m₀ z) → News h₀ env.locals h news → Q .next { s with heap := h, toks := tk }) :
    ItemsRest prog w A E h₀ env target body Q s [(I, "tuple_iterator")] [] [.val (.ref 141), .val (.ref 142), .val (.ref 143), .val (.ref 144), .val (.ref 145), .val (.ref 146), .val (.ref 147), .val (.ref 148), .val (.ref 149)] m₀ news := by
  refine items_calm (vs := RedVs) stored (fun v hv u h tk oI hc F N => ?_) done m₀ (fun _ _ => rfl)
  refine wpAny_mono (bind v hv u h tk oI hc F N) (fun _ s₂ hq => ?_) fun _ _ e => e
  obtain ⟨X, Y, t, t', h', tk', hXY, rfl, F', N'⟩ := hq
  refine wpAny_mono (turn X Y t t' u h' tk' oI hXY hc F' N') (fun f s₃ p => ?_) fun _ _ e => e
  cases f <;> exact p
/-- the texts in front of the witness's words -/
def LeadIs (a : Nat) (X : Str) : Prop := (a, X) ∈ [(0, Str.ofString ""), (1, Str.ofString "B"), (2, Str.ofString "E")]
theorem lead_loop {P : List Value → Nat → Prop} {l : Addr} {vs₀ : List Value} {k₀ : Nat} {m₀ : Str → Option Value} {nw : List (Addr × Obj)} {t0 t1 t2 : Tok} {D : Addr} {oD : Obj} (stored : List Str)
    (hm : (l, PySem.W.listOf vs₀.toArray k₀) ∈ nw) (hD : (D, oD) ∈ nw) (h0 : P vs₀ 0)
    (turn : ∀ a X t vs n (u : Str → Option Value) h tk (oI : Obj), LeadIs a X → oI.cls = .type "tuple_iterator" → P vs (9 * a) → Fr h₀ env.locals h (fun z => if stored.contains z then u z else m₀ z) → News h₀ env.locals h ((l, PySem.W.listOf vs.toArray n) :: [(I, oI), (D, oD)]) →
      wpAny (model prog w) A (assign target env (.str X t)) (fun _ s₂ => wpAny (model prog w) A (execs body env) (UnrPostW h₀ env.locals { s with heap := h, toks := tk } [(I, oI)] (fun m' n' => ∃ vs n, n' = [(l, PySem.W.listOf vs.toArray n), (D, oD)] ∧ P vs (9 * (a + 1)) ∧ ∀ z, stored.contains z = false → m' z = m₀ z) Q) E s₂) E { s with heap := h, toks := tk })
    (done : ∀ vs n (u : Str → Option Value) h tk, P vs 27 → Fr h₀ env.locals h (fun z => if stored.contains z then u z else m₀ z) → News h₀ env.locals h [(l, PySem.W.listOf vs.toArray n)] → Q .next { s with heap := h, toks := tk }) :
    ItemsRest prog w A E h₀ env target body Q s [(I, "tuple_iterator")] [(D, oD)] [.val (.str (Str.ofString "") t0), .val (.str (Str.ofString "B") t1), .val (.str (Str.ofString "E") t2)] m₀ nw := by
  have fr : ∀ {h : Heap} {m : Str → Option Value}, (∀ z, stored.contains z = false → m z = m₀ z) → Fr h₀ env.locals h m → Fr h₀ env.locals h (fun z => if stored.contains z then m z else m₀ z) := by
    intro h m hm F
    have em : (fun z => if stored.contains z then m z else m₀ z) = m := by
      funext y
      cases h3 : stored.contains y with
      | true => simp
      | false => simp only [Bool.false_eq_true, if_false]; exact (hm y h3).symm
    rw [em]
    exact F
  have step : ∀ a X t r, LeadIs a X → (∀ vs n m nw, (l, PySem.W.listOf vs.toArray n) ∈ nw → (D, oD) ∈ nw → P vs (9 * (a + 1)) → (∀ z, stored.contains z = false → m z = m₀ z) → ItemsRest prog w A E h₀ env target body Q s [(I, "tuple_iterator")] [(D, oD)] r m nw) →
      ∀ vs n m nw, (l, PySem.W.listOf vs.toArray n) ∈ nw → (D, oD) ∈ nw → P vs (9 * a) → (∀ z, stored.contains z = false → m z = m₀ z) → ItemsRest prog w A E h₀ env target body Q s [(I, "tuple_iterator")] [(D, oD)] (.val (.str X t) :: r) m nw := by
    intro a X t r ha next vs n m nw hmem hDm hP hm
    refine ItemsRest.val fun h tk F o ho N => ?_
    refine wpAny_mono (turn a X t vs n m h tk o ha ho hP (fr hm F) (fun p hp => by
      rcases List.mem_cons.mp hp with rfl | hp
      · exact N _ (.tail _ hmem)
      · rcases List.mem_cons.mp hp with rfl | hp
        · exact N _ (.head _)
        · rcases List.mem_singleton.mp hp with rfl
          exact N _ (.tail _ hDm))) (fun _ s₂ hq => wpAny_mono hq (fun f s₃ p => ?_) fun _ _ e => e) fun _ _ e => e
    have up : UnrEndW h₀ env.locals { s with heap := h, toks := tk } [(I, o)] (fun m' n' => ∃ vs n, n' = [(l, PySem.W.listOf vs.toArray n), (D, oD)] ∧ P vs (9 * (a + 1)) ∧ ∀ z, stored.contains z = false → m' z = m₀ z) s₃ →
        UnrEndW h₀ env.locals { s with heap := h, toks := tk } [(I, o)] (fun m' n' => SubL [(D, oD)] n' ∧ ItemsRest prog w A E h₀ env target body Q s [(I, "tuple_iterator")] [(D, oD)] r m' n') s₃ := by
      rintro ⟨h', tk', m', news', e, F', N', ho', vs', n', rfl, hP', hM⟩
      exact ⟨h', tk', m', _, e, F', N', ho', ⟨.tail _ (.head _), trivial⟩, next vs' n' m' _ (.head _) (.tail _ (.head _)) hP' hM⟩
    cases f with
    | ret v => exact p
    | brk => exact p
    | next => exact up p
    | cont => exact up p
  refine step 0 _ _ _ (by simp [LeadIs]) (step 1 _ _ _ (by simp [LeadIs]) (step 2 _ _ _ (by simp [LeadIs]) ?_)) vs₀ k₀ m₀ nw hm hD h0 (fun _ _ => rfl)
  intro vs n m nw hmem _ hP hM
  refine ItemsRest.zero fun h tk F N => done vs n m h tk hP (fr hM F) (fun p hp => ?_)
  rcases List.mem_singleton.mp hp with rfl
  exact N _ hmem
theorem lead_close {P : List Value → Nat → Prop} {l : Addr} {h' : Heap} {L : Addr} {m₀ m' : Str → Option Value} {stored : List Str} {oI : Obj} {s₁ : Shared} {tk a c' : Nat} {vs : List Value} {n : Nat} {D : Addr} {oD : Obj} (hl : l ≠ I) (hD : D ≠ I) (F : Fr h₀ L h' m') (N : News h₀ L h' ((l, PySem.W.listOf vs.toArray n) :: [(I, oI), (D, oD)]))
    (hP : P vs c') (hc : c' = 9 * (a + 1)) (hr : ∀ z, stored.contains z = false → m' z = m₀ z) :
    UnrEndW h₀ L s₁ [(I, oI)] (fun m' n' => ∃ vs n, n' = [(l, PySem.W.listOf vs.toArray n), (D, oD)] ∧ P vs (9 * (a + 1)) ∧ ∀ z, stored.contains z = false → m' z = m₀ z) { s₁ with heap := h', toks := tk } :=
  ⟨h', tk, m', _, rfl, F, fun p hp => by
    rcases List.mem_cons.mp hp with rfl | hp
    · exact N _ (.tail _ (.head _))
    · rcases List.mem_cons.mp hp with rfl | hp
      · exact N _ (.head _)
      · exact N _ (.tail _ (.tail _ hp)), fun p hp q hq e => by
    rcases List.mem_singleton.mp hq with rfl
    rcases List.mem_cons.mp hp with rfl | hp
    · exact hl e
    · rcases List.mem_singleton.mp hp with rfl
      exact hD e, vs, n, rfl, hc ▸ hP, hr⟩
end
section
variable {prog : Program} {w : World} {A : Around} {E : Value → Shared → Prop} {s : Shared} {env : Env} {h₀ : Heap} {x : Str} {body : List Stmt} {Q : Flow → Shared → Prop}
theorem wit_loop (P : List Value → Nat → Prop) {r l : Addr} {t₀ u₀ v₀ : Tok} {m₀ : Str → Option Value} {news : List (Addr × Obj)} {vs₀ : List Value} {k₀ c : Nat} (stp : Nat) (stored : List Str)
    (hh : A.handled = none) (hr : IsRange s.heap r 0 3 1 t₀ u₀ v₀) (F : Fr h₀ env.locals s.heap m₀) (N : News h₀ env.locals s.heap ((l, PySem.W.listOf vs₀.toArray k₀) :: news)) (h0 : P vs₀ c)
    (turn : ∀ (vs : List Value) (n : Nat) (pre : List Int) (k : Int) t (u : Str → Option Value) h tk own, k = (pre.length : Int) → pre.length < 3 → OwnOff own (((l, PySem.W.listOf vs.toArray n) :: news).map (·.1)) → P vs (c + stp * pre.length) →
      Fr h₀ env.locals h (fun z => if z = x then some (.int k t) else if stored.contains z then u z else m₀ z) → News h₀ env.locals h (((l, PySem.W.listOf vs.toArray n) :: news) ++ own) →
      wpAny (model prog w) A (execs body env) (InvPostN h₀ env.locals (KstS (fun c : List Value × Nat => (l, PySem.W.listOf c.1.toArray c.2) :: news) (fun _ => []) (fun _ => True) x stored m₀
        (fun pre d => P d.1 (c + stp * pre.length)) (pre ++ [k])) own (((l, PySem.W.listOf vs₀.toArray k₀) :: news).map (·.1)) { s with heap := h, toks := tk } Q) E { s with heap := h, toks := tk })
    (done : ∀ (vs : List Value) (n : Nat) (u : Str → Option Value) h tk, P vs (c + stp * 3) → Fr h₀ env.locals h (fun z => if z = x then u z else if stored.contains z then u z else m₀ z) → News h₀ env.locals h ((l, PySem.W.listOf vs.toArray n) :: news) → Q .next { s with heap := h, toks := tk }) :
    wpAny (model prog w) A (pyIter (.ref r)) (fun it s₂ => LoopAtV prog w A h₀ env x body Q E it s₂) E s := by
  refine kst_range (n := 3) (fun c : List Value × Nat => (l, PySem.W.listOf c.1.toArray c.2) :: news) (fun _ => []) (fun _ => True) stored (fun pre d => P d.1 (c + stp * pre.length)) (vs₀, k₀)
    hh hr (small_one (by omega) (by omega) (by omega) (by omega)) (by decide) F N trivial (fun _ h => nomatch h) (by simpa using h0) ?_ ?_
  · intro d pre k t u h tk own e hlt hoff hf hp F' N'
    exact turn d.1 d.2 pre k t u h tk own (by omega) (by omega) hoff hp F' N'
  · intro d u h tk hf hp F' N'
    refine done d.1 d.2 u h tk ?_ F' N'
    have h9 := hp
    simp only [rangeKs_length] at h9
    exact h9
theorem wit_close {P : List Value → Nat → Prop} {h' : Heap} {L l : Addr} {m₀ m' : Str → Option Value} {news own : List (Addr × Obj)} {vs vs₀ : List Value} {n k₀ c c' stp : Nat} {stored : List Str} {pre : List Int} {k : Int} {s₁ : Shared} {tk : Nat} {all : List (Addr × Obj)}
    (F : Fr h₀ L h' m') (N : News h₀ L h' all) (hm : (l, PySem.W.listOf vs.toArray n) ∈ all) (hn : ∀ p ∈ news, p ∈ all) (ho : ∀ p ∈ own, p ∈ all) (hP : P vs c') (hc : c' = c + stp * (pre.length + 1))
    (hr : ∀ z, z ≠ x → stored.contains z = false → m' z = m₀ z) :
    InvEndN h₀ L (KstS (fun c : List Value × Nat => (l, PySem.W.listOf c.1.toArray c.2) :: news) (fun _ => []) (fun _ => True) x stored m₀
        (fun pre d => P d.1 (c + stp * pre.length)) (pre ++ [k])) own (((l, PySem.W.listOf vs₀.toArray k₀) :: news).map (·.1)) s₁ { s₁ with heap := h', toks := tk } :=
  kst_end ((vs, n) : List Value × Nat) F N (fun q hq => by
      rcases List.mem_cons.mp hq with rfl | hq
      · exact hm
      · exact hn q hq)
    ho rfl trivial (fun _ h => nomatch h) (fun z h1 _ h2 => hr z h1 h2) (by rw [List.length_append]; subst hc; exact hP)
end
end
section
open PySem.Calls
theorem rules_left {a b : List Nat} (h : (a, b) ∈ rules) : Letters a ∧ a.length ≤ 100 := by
  simp only [rules, List.mem_cons, List.not_mem_nil, or_false, Prod.mk.injEq] at h
  rcases h with ⟨rfl, rfl⟩ | ⟨rfl, rfl⟩ | ⟨rfl, rfl⟩ | ⟨rfl, rfl⟩ | ⟨rfl, rfl⟩ | ⟨rfl, rfl⟩ | ⟨rfl, rfl⟩ | ⟨rfl, rfl⟩ | ⟨rfl, rfl⟩ <;> exact ⟨by decide +kernel, by decide⟩
theorem rules_right {a b : List Nat} (h : (a, b) ∈ rules) : b = [90] ∨ (Letters b ∧ b.length ≤ 100) := by
  simp only [rules, List.mem_cons, List.not_mem_nil, or_false, Prod.mk.injEq] at h
  rcases h with ⟨rfl, rfl⟩ | ⟨rfl, rfl⟩ | ⟨rfl, rfl⟩ | ⟨rfl, rfl⟩ | ⟨rfl, rfl⟩ | ⟨rfl, rfl⟩ | ⟨rfl, rfl⟩ | ⟨rfl, rfl⟩ | ⟨rfl, rfl⟩ <;> first | exact .inl rfl | exact .inr ⟨by decide +kernel, by decide⟩
theorem c_doneLS {w mean mg mb} (x : Str) (b r : List Nat) (t t₂ : Tok) (h : (x.cps.toList, b) ∈ rules) (hr : r.length ≤ 1000) : CtrV w mean mg mb 218 5 50 [.str x t₂, .str (RS r) t, .bool false] (fun R => R = fun t => .str (RS (sem x.cps.toList r)) t) :=
  c_doneSX x r t t₂ hr (rules_left h).1 (rules_left h).2
theorem c_doneLY {w mean mg mb} (x : Str) (b r : List Nat) (t t₂ : Tok) (h : (x.cps.toList, b) ∈ rules) (hr : r.length ≤ 1000) (ho : Oct r) : CtrV w mean mg mb 218 5 50 [.str x t₂, .bytes (RY r) t, .bool true] (fun R => R = fun t => .bytes (RY (sem x.cps.toList r)) t) :=
  c_doneYX x r t t₂ hr ho (rules_left h).1 (rules_left h).2
theorem c_doneRS {w mean mg mb} (a : List Nat) (x : Str) (r : List Nat) (t t₂ : Tok) (h : (a, x.cps.toList) ∈ rules) (hr : r.length ≤ 1000) : CtrV w mean mg mb 218 5 50 [.str x t₂, .str (RS r) t, .bool false] (fun R => R = fun t => .str (RS (sem x.cps.toList r)) t) := by
  rcases rules_right h with e | ⟨h1, h2⟩
  · have h3 := c_doneZSX (w := w) (mean := mean) (mg := mg) (mb := mb) x (RS r) t t₂ (by rw [W_codes x, e])
    rw [e]
    exact h3
  · exact c_doneSX x r t t₂ hr h1 h2
theorem c_doneRY {w mean mg mb} (a : List Nat) (x : Str) (r : List Nat) (t t₂ : Tok) (h : (a, x.cps.toList) ∈ rules) (hr : r.length ≤ 1000) (ho : Oct r) : CtrV w mean mg mb 218 5 50 [.str x t₂, .bytes (RY r) t, .bool true] (fun R => R = fun t => .bytes (RY (sem x.cps.toList r)) t) := by
  rcases rules_right h with e | ⟨h1, h2⟩
  · have h3 := c_doneZYX (w := w) (mean := mean) (mg := mg) (mb := mb) x (RY r) t t₂ (by rw [W_codes x, e])
    rw [e]
    exact h3
  · exact c_doneYX x r t t₂ hr ho h1 h2
def leadc (a : Nat) : List Nat := if a = 0 then [] else if a = 1 then [66] else [69]
def wcode (a p q : Nat) : List Nat := leadc a ++ List.replicate p 83 ++ List.replicate q 68
def exp : List (List Nat) := [] :: ((List.range 27).map fun n => sem (wcode (n / 9) (n / 3 % 3) (n % 3)) wit)
theorem lead_lt {a : Nat} {X : Str} (h : LeadIs a X) : a < 3 := by
  simp only [LeadIs, List.mem_cons, List.not_mem_nil, or_false, Prod.mk.injEq] at h
  omega
theorem word_all : ∀ p < 3, ∀ q < 3, ∀ aX ∈ [((0 : Nat), Str.ofString ""), (1, Str.ofString "B"), (2, Str.ofString "E")],
    aX.2 ++ Txt.mul (Str.ofString "S") ((p : Nat) : Int) ++ Txt.mul (Str.ofString "D") ((q : Nat) : Int) = W (wcode aX.1 p q) := by decide +kernel
theorem word_ok {a p q : Nat} {X : Str} {i j : Int} (ha : LeadIs a X) (hi : i = (p : Int)) (hp : p < 3) (hj : j = (q : Int)) (hq : q < 3) :
    X ++ Txt.mul (Str.ofString "S") i ++ Txt.mul (Str.ofString "D") j = W (wcode a p q) := by
  subst hi hj
  exact word_all p hp q hq (a, X) ha
theorem wcode_all : ∀ a < 3, ∀ p < 3, ∀ q < 3, (((wcode a p q).all fun c => decide (c = 66 ∨ c = 68 ∨ c = 69 ∨ c = 83)) && decide ((wcode a p q).length ≤ 100)) = true := by decide +kernel
theorem wcode_ok (a : Nat) (ha : a < 3) (p : Nat) (hp : p < 3) (q : Nat) (hq : q < 3) : Letters (wcode a p q) ∧ (wcode a p q).length ≤ 100 := by
  have h := wcode_all a ha p hp q hq
  rw [Bool.and_eq_true, decide_eq_true_eq] at h
  exact ⟨fun c hc => of_decide_eq_true (List.all_eq_true.mp h.1 c hc), h.2⟩
theorem c_doneWS {w mean mg mb} {a p q : Nat} (X : Str) (i j : Int) (t t₂ : Tok) (ha : LeadIs a X) (hi : i = (p : Int)) (hp : p < 3) (hj : j = (q : Int)) (hq : q < 3) :
    CtrV w mean mg mb 218 5 50 [.str (X ++ Txt.mul (Str.ofString "S") i ++ Txt.mul (Str.ofString "D") j) t₂, .str (RS wit) t, .bool false] (fun R => R = fun t => .str (RS (sem (wcode a p q) wit)) t) := by
  rw [word_ok ha hi hp hj hq]
  exact c_doneS _ wit t t₂ wit_len (wcode_ok a (lead_lt ha) p hp q hq).1 (wcode_ok a (lead_lt ha) p hp q hq).2
theorem c_doneWY {w mean mg mb} {a p q : Nat} (X : Str) (i j : Int) (t t₂ : Tok) (ha : LeadIs a X) (hi : i = (p : Int)) (hp : p < 3) (hj : j = (q : Int)) (hq : q < 3) :
    CtrV w mean mg mb 218 5 50 [.str (X ++ Txt.mul (Str.ofString "S") i ++ Txt.mul (Str.ofString "D") j) t₂, .bytes (RY wit) t, .bool true] (fun R => R = fun t => .bytes (RY (sem (wcode a p q) wit)) t) := by
  rw [word_ok ha hi hp hj hq]
  exact c_doneY _ wit t t₂ wit_len wit_oct (wcode_ok a (lead_lt ha) p hp q hq).1 (wcode_ok a (lead_lt ha) p hp q hq).2
def WitS (vs : List Value) (n : Nat) : Prop := StrsAre vs ((exp.take (n + 1)).map RS)
def WitY (vs : List Value) (n : Nat) : Prop := BytesAre vs ((exp.take (n + 1)).map RY)
theorem wit0S {t : Tok} : WitS [.str (RS []) t] 0 := .cons _ _ .nil
theorem wit0Y {t : Tok} : WitY [.bytes (RY []) t] 0 := .cons _ _ .nil
theorem exp_next : ∀ a < 3, ∀ p < 3, ∀ q < 3, exp.take (9 * a + 3 * p + 1 * q + 1 + 1) = exp.take (9 * a + 3 * p + 1 * q + 1) ++ [sem (wcode a p q) wit] := by decide +kernel
theorem exp_noS : ∀ a < 3, ∀ p < 3, ∀ q < 3, (((exp.take (9 * a + 3 * p + 1 * q + 1)).map RS).any (· == RS (sem (wcode a p q) wit))) = false := by decide +kernel
theorem exp_noY : ∀ a < 3, ∀ p < 3, ∀ q < 3, (((exp.take (9 * a + 3 * p + 1 * q + 1)).map RY).any fun y => decide (y.toList = (RY (sem (wcode a p q) wit)).toList)) = false := by decide +kernel
theorem witS_next {vs : List Value} {a p q : Nat} {X : Str} {t : Tok} (h : WitS vs (9 * a + 3 * p + 1 * q)) (ha : LeadIs a X) (hp : p < 3) (hq : q < 3) : WitS (vs ++ [.str (RS (sem (wcode a p q) wit)) t]) (9 * a + 3 * p + 1 * q + 1) := by
  unfold WitS
  rw [exp_next a (lead_lt ha) p hp q hq, List.map_append]
  exact StrsAre.append' h (.cons _ _ .nil)
theorem witY_next {vs : List Value} {a p q : Nat} {X : Str} {t : Tok} (h : WitY vs (9 * a + 3 * p + 1 * q)) (ha : LeadIs a X) (hp : p < 3) (hq : q < 3) : WitY (vs ++ [.bytes (RY (sem (wcode a p q) wit)) t]) (9 * a + 3 * p + 1 * q + 1) := by
  unfold WitY
  rw [exp_next a (lead_lt ha) p hp q hq, List.map_append]
  exact BytesAre.append' h (.cons _ _ .nil)
theorem BytesAre.length : ∀ {vs : List Value} {ys : List (Array UInt8)}, BytesAre vs ys → vs.length = ys.length
  | _, _, .nil => rfl
  | _, _, .cons _ _ h => by rw [List.length_cons, List.length_cons, BytesAre.length h]
theorem witS_len {vs : List Value} (h : WitS vs 27) : vs.length = 28 := (StrsAre.length h).trans (by decide +kernel)
theorem witY_len {vs : List Value} (h : WitY vs 27) : vs.length = 28 := (BytesAre.length h).trans (by decide +kernel)
section
variable {prog : Program} {w : World} {A : Around} {E : Value → Shared → Prop} {s : Shared}
theorem in_wS {h₀ : Heap} {L l : Addr} {news : List (Addr × Obj)} {vs : List Value} {n a p q : Nat} {X : Str} {t : Tok} {Q : Value → Shared → Prop} (N : News h₀ L s.heap news) (hm : (l, PySem.W.listOf vs.toArray n) ∈ news) (hi : WitS vs (9 * a + 3 * p + 1 * q))
    (ha : LeadIs a X) (hp : p < 3) (hq : q < 3) (h : Q (.bool false) s) : wpAny (model prog w) A (compareOp .In (.str (RS (sem (wcode a p q) wit)) t) (.ref l)) Q E s :=
  in_noS N hm hi (exp_noS a (lead_lt ha) p hp q hq) h
theorem in_wY {h₀ : Heap} {L l : Addr} {news : List (Addr × Obj)} {vs : List Value} {n a p q : Nat} {X : Str} {t : Tok} {Q : Value → Shared → Prop} (N : News h₀ L s.heap news) (hm : (l, PySem.W.listOf vs.toArray n) ∈ news) (hi : WitY vs (9 * a + 3 * p + 1 * q))
    (ha : LeadIs a X) (hp : p < 3) (hq : q < 3) (h : Q (.bool false) s) : wpAny (model prog w) A (compareOp .In (.bytes (RY (sem (wcode a p q) wit)) t) (.ref l)) Q E s :=
  in_noY N hm hi (exp_noY a (lead_lt ha) p hp q hq) h
end
theorem eqRS {x y : Str} {r : List Nat} (h : (x.cps.toList, y.cps.toList) ∈ rules) : RS (sem x.cps.toList r) = RS (sem y.cps.toList r) := congrArg RS (rule_lit h _)
theorem eqRY {x y : Str} {r : List Nat} (h : (x.cps.toList, y.cps.toList) ∈ rules) : RY (sem x.cps.toList r) = RY (sem y.cps.toList r) := congrArg RY (rule_lit h _)
theorem num_post {h₀ : Heap} {L l : Addr} {m : Str → Option Value} {s : Shared} {vs : List Value} {ns : List Int} {n : Nat} {h' : Heap} {tk : Nat} {all : List (Addr × Obj)} (F : Fr h₀ L h' m) (N : News h₀ L h' all) (hm : (l, PySem.W.listOf vs.toArray n) ∈ all)
    (hi : IntsAre vs ns) (h1 : 2 ≤ ns.length) (h2 : ns.length ≤ 14) : NumPost h₀ L m s (.ref l) { s with heap := h', toks := tk } :=
  ⟨l, vs, ns, n, h', tk, rfl, rfl, F, fun p hp => by
    rcases List.mem_singleton.mp hp with rfl
    exact N _ hm, hi, h1, h2⟩
theorem lead_all : ∀ aX ∈ [((0 : Nat), Str.ofString ""), (1, Str.ofString "B"), (2, Str.ofString "E")], aX.2.length ≤ 1 := by decide +kernel
theorem lead_len {a : Nat} {X : Str} (h : LeadIs a X) : X.length ≤ 1 := lead_all (a, X) h
theorem mulS_len {i : Int} (hi : i < 3) : (Txt.mul (Str.ofString "S") i).length ≤ 2 := len_mul_leN (L := 1) (N := 2) (by decide +kernel) (by omega)
theorem mulD_len {i : Int} (hi : i < 3) : (Txt.mul (Str.ofString "D") i).length ≤ 2 := len_mul_leN (L := 1) (N := 2) (by decide +kernel) (by omega)
section
variable {prog : Program} {w : World} {A : Around} {E : Value → Shared → Prop} {s : Shared} {a : Nat} {X : Str} {i j : Int} {t u : Tok} {Q : Value → Shared → Prop}
theorem add_w1 (ha : LeadIs a X) (hi : i < 3) (h : ∀ t' k, Q (.str (X ++ Txt.mul (Str.ofString "S") i) t') { s with toks := k }) :
    wpAny (model prog w) A (binaryOp .Add (.str X t) (.str (Txt.mul (Str.ofString "S") i) u)) Q E s :=
  KXadd.add (lead_len ha) (mulS_len hi) (by decide) fun t' k _ => h t' k
theorem add_w2 (ha : LeadIs a X) (hi : i < 3) (hj : j < 3) (h : ∀ t' k, Q (.str (X ++ Txt.mul (Str.ofString "S") i ++ Txt.mul (Str.ofString "D") j) t') { s with toks := k }) :
    wpAny (model prog w) A (binaryOp .Add (.str (X ++ Txt.mul (Str.ofString "S") i) t) (.str (Txt.mul (Str.ofString "D") j) u)) Q E s :=
  KXadd.add (K := 3) (by have h1 := lead_len ha; have h2 := mulS_len hi; rw [PySem.Str.length_append]; omega) (mulD_len hj) (by decide) fun t' k _ => h t' k
end
theorem exp_len : exp.length = 28 := by decide +kernel
theorem witS_size {vs : List Value} {n : Nat} (h : WitS vs n) : vs.toArray.size ≤ sizeLine := by
  rw [List.size_toArray, StrsAre.length h, List.length_map, List.length_take, exp_len, sizeLine_eq]
  omega
theorem witY_size {vs : List Value} {n : Nat} (h : WitY vs n) : vs.toArray.size ≤ sizeLine := by
  rw [List.size_toArray, BytesAre.length h, List.length_map, List.length_take, exp_len, sizeLine_eq]
  omega
end
section
open PySem.Calls
local macro_rules | `(tactic| walk_at "call type:type") => `(tactic| (k_here; (with_reducible show wpAny _ _ (call (Value.type "type") [Value.bytes _ _]) _ _ _); refine call_type_of (Tx := "bytes") rfl (by decide +kernel) ?_))
local macro_rules | `(tactic| walk_at "call builtin:issubclass") => `(tactic| (k_here; k_dflt (first
  | (refine' issub_SN ?k1 ?k2 ?_; (case k1 => k_asm); (case k2 => k_mem); k_whole)
  | (refine' issub_BN ?k1 ?k2 ?_; (case k1 => k_asm); (case k2 => k_mem); k_whole))))
local macro_rules | `(tactic| walk_at "getMethod bytes") => `(tactic| with_reducible refine RB.m_rfind ?_)
local macro_rules | `(tactic| walk_at "getMethod bytes") => `(tactic| with_reducible refine RB.m_rstrip ?_)
local macro_rules | `(tactic| walk_at "call builtin:bytes.rfind") => `(tactic| refine RB.rfind ?_)
local macro_rules | `(tactic| walk_at "call builtin:bytes.rstrip") => `(tactic| (refine' RB.rstrip ?_ ?kz; (case kz => first | omega | (refine Nat.le_trans (KBc.size_picked_le _ _ _) ?_; omega)); k_whole; intro _ _))
local macro_rules | `(tactic| walk_at "subscriptTail") => `(tactic| (k_here; (with_reducible show wpAny _ _ (subscriptTail _ (Expr.Slice _ _ none _) (Value.bytes _ _) (Value.ref _)) _ _ _); (with_reducible rename Fr _ _ _ _ => F'); (with_reducible rename News _ _ _ _ => N'); (refine' RB.slice (s := ⟨_, _, _, _, _⟩) F' N' ?kl ?ku ?kz ?_; (case kl => constructor); (case ku => constructor); (case kz => first | omega | (refine Nat.le_trans (KBc.size_picked_le _ _ _) ?_; omega)); k_whole); intro _ _ _ _ _))
local macro_rules | `(tactic| walk_at "truthy bytes") => `(tactic| (k_here; (refine' truthy_bytes ?kz ?_; (case kz => first | omega | (refine Nat.le_trans (KBc.size_picked_le _ _ _) ?_; omega)); k_whole)))
local macro_rules | `(tactic| walk_at "call builtin:len") => `(tactic| (k_here; (with_reducible show wpAny _ _ (call (Value.builtin "len") [Value.bytes _ _]) _ _ _); (refine' RB.len ?kz ?_; (case kz => first | omega | (refine Nat.le_trans (KBc.size_picked_le _ _ _) ?_; omega)); k_whole; intro _)))
local macro_rules | `(tactic| walk_at "StopDown") => `(tactic| exact stop_down_le_and)
local macro_rules | `(tactic| walk_at "call ref") => `(tactic| (k_here; (with_reducible show wpAny _ _ (call (Value.ref 157) [Value.int _ _, Value.str (Txt.mul (Str.ofString "/") (Int.fmod _ 4)) _]) _ _ _); k_dflt (refine' useV (c_path _ _ _ _ front_len front_codes) ?k1 ?k2 ?k3 ?k4 ?k5 ?kK ?kd ?ku ?_; (case k1 => k_asm); (case k2 => k_asm); (case k3 => k_asm); (case k4 => k_asm); (case k5 => k_asm); (case kK => first | exact rfl | assumption); (case kd => ktr_room); (case ku => ktr_units); (intro R9 hR9; obtain ⟨r9, hr9, ho9, e9⟩ := hR9; subst e9; intro t9 h9 tk9 F9 N9); (try dsimp only); (try k_fold))))
local macro_rules | `(tactic| walk_at "call ref") => `(tactic| (k_here; (with_reducible show wpAny _ _ (call (Value.ref 164) [Value.int _ _]) _ _ _); k_dflt (refine' useV (c_word _ _) ?k1 ?k2 ?k3 ?k4 ?k5 ?kK ?kd ?ku ?_; (case k1 => k_asm); (case k2 => k_asm); (case k3 => k_asm); (case k4 => k_asm); (case k5 => k_asm); (case kK => first | exact rfl | assumption); (case kd => ktr_room); (case ku => ktr_units); (intro R9 hR9; obtain ⟨l9, hl9, hn9, e9⟩ := hR9; subst e9; intro t9 h9 tk9 F9 N9); (try dsimp only); (try k_fold))))
local macro_rules | `(tactic| walk_at "call ref") => `(tactic| (k_here; (with_reducible show wpAny _ _ (call (Value.ref 171) [Value.str (W _) _]) _ _ _); k_dflt (refine' useV (c_reduce _ _ (by assumption) (by assumption)) ?k1 ?k2 ?k3 ?k4 ?k5 ?kK ?kd ?ku ?_; (case k1 => k_asm); (case k2 => k_asm); (case k3 => k_asm); (case k4 => k_asm); (case k5 => k_asm); (case kK => first | exact rfl | assumption); (case kd => ktr_room); (case ku => ktr_units); (intro R9 hR9; obtain ⟨l9, hc9, hn9, hs9, e9⟩ := hR9; subst e9; intro t9 h9 tk9 F9 N9; rcases hc9 with hl9 | hz9; rotate_left; subst hz9; rotate_left); (try dsimp only); (try k_fold))))
local macro_rules | `(tactic| walk_at "call ref") => `(tactic| (k_here; (with_reducible show wpAny _ _ (call (Value.ref 211) [Value.str _ _, Value.bool false]) _ _ _); k_dflt (refine' useE (c_kindF _ _) ?k1 ?k2 ?k3 ?k4 ?k5 ?kK ?kd ?ku ?_; (case k1 => k_asm); (case k2 => k_asm); (case k3 => k_asm); (case k4 => k_asm); (case k5 => k_asm); (case kK => first | exact rfl | assumption); (case kd => ktr_room); (case ku => ktr_units); intro t9 h9 tk9 F9 N9; (try dsimp only); (try k_fold))))
local macro_rules | `(tactic| walk_at "call ref") => `(tactic| (k_here; (with_reducible show wpAny _ _ (call (Value.ref 211) [Value.str (RS _) _, Value.bool true]) _ _ _); k_dflt (refine' useE (c_kindT _ _ (by first | assumption | exact sem_len_le (by assumption) | exact wit_len | exact Nat.zero_le _ | omega) (by first | assumption | exact sem_oct (by assumption) | exact wit_oct | exact (fun _ h => nomatch h))) ?k1 ?k2 ?k3 ?k4 ?k5 ?kK ?kd ?ku ?_; (case k1 => k_asm); (case k2 => k_asm); (case k3 => k_asm); (case k4 => k_asm); (case k5 => k_asm); (case kK => first | exact rfl | assumption); (case kd => ktr_room); (case ku => ktr_units); intro t9 h9 tk9 F9 N9; (try dsimp only); (try k_fold))))
local macro_rules | `(tactic| walk_at "call ref") => `(tactic| (k_here; (with_reducible show wpAny _ _ (call (Value.ref 211) [Value.str (Str.ofString "") _, Value.bool true]) _ _ _); k_dflt (refine' useE (c_kindE _) ?k1 ?k2 ?k3 ?k4 ?k5 ?kK ?kd ?ku ?_; (case k1 => k_asm); (case k2 => k_asm); (case k3 => k_asm); (case k4 => k_asm); (case k5 => k_asm); (case kK => first | exact rfl | assumption); (case kd => ktr_room); (case ku => ktr_units); intro t9 h9 tk9 F9 N9; (try dsimp only); (try k_fold))))
local macro_rules | `(tactic| walk_at "call ref") => `(tactic| (k_here; (with_reducible show wpAny _ _ (call (Value.ref 211) [Value.str (Str.ofString "") _, Value.bool false]) _ _ _); k_dflt (refine' useE (c_kindES _) ?k1 ?k2 ?k3 ?k4 ?k5 ?kK ?kd ?ku ?_; (case k1 => k_asm); (case k2 => k_asm); (case k3 => k_asm); (case k4 => k_asm); (case k5 => k_asm); (case kK => first | exact rfl | assumption); (case kd => ktr_room); (case ku => ktr_units); intro t9 h9 tk9 F9 N9; (try dsimp only); (try k_fold))))
local macro_rules | `(tactic| walk_at "call ref") => `(tactic| (k_here; (with_reducible show wpAny _ _ (call (Value.ref 211) [Value.str (Str.ofString _) _, Value.bool true]) _ _ _); k_dflt (refine' useE (c_kindWY _ _ (by decide +kernel)) ?k1 ?k2 ?k3 ?k4 ?k5 ?kK ?kd ?ku ?_; (case k1 => k_asm); (case k2 => k_asm); (case k3 => k_asm); (case k4 => k_asm); (case k5 => k_asm); (case kK => first | exact rfl | assumption); (case kd => ktr_room); (case ku => ktr_units); intro t9 h9 tk9 F9 N9; (try dsimp only); (try k_fold))))
local macro_rules | `(tactic| walk_at "call ref") => `(tactic| (k_here; (with_reducible show wpAny _ _ (call (Value.ref 211) [Value.str (Str.ofString _) _, Value.bool false]) _ _ _); k_dflt (refine' useE (c_kindWS _ _ (by decide +kernel)) ?k1 ?k2 ?k3 ?k4 ?k5 ?kK ?kd ?ku ?_; (case k1 => k_asm); (case k2 => k_asm); (case k3 => k_asm); (case k4 => k_asm); (case k5 => k_asm); (case kK => first | exact rfl | assumption); (case kd => ktr_room); (case ku => ktr_units); intro t9 h9 tk9 F9 N9; (try dsimp only); (try k_fold))))
local macro_rules | `(tactic| walk_at "call ref") => `(tactic| (k_here; (with_reducible show wpAny _ _ (call (Value.ref 218) [Value.str _ _, Value.str (RS _) _, Value.bool false]) _ _ _); k_dflt (refine' useE (c_doneSX _ _ _ _ (by first | assumption | exact sem_len_le (by assumption) | exact wit_len | exact Nat.zero_le _ | omega) (by decide +kernel) (by decide +kernel)) ?k1 ?k2 ?k3 ?k4 ?k5 ?kK ?kd ?ku ?_; (case k1 => k_asm); (case k2 => k_asm); (case k3 => k_asm); (case k4 => k_asm); (case k5 => k_asm); (case kK => first | exact rfl | assumption); (case kd => ktr_room); (case ku => ktr_units); intro t9 h9 tk9 F9 N9; (try dsimp only); (try k_fold))))
local macro_rules | `(tactic| walk_at "call ref") => `(tactic| (k_here; (with_reducible show wpAny _ _ (call (Value.ref 218) [Value.str _ _, Value.bytes (RY _) _, Value.bool true]) _ _ _); k_dflt (refine' useE (c_doneYX _ _ _ _ (by first | assumption | exact sem_len_le (by assumption) | exact wit_len | exact Nat.zero_le _ | omega) (by first | assumption | exact sem_oct (by assumption) | exact wit_oct | exact (fun _ h => nomatch h)) (by decide +kernel) (by decide +kernel)) ?k1 ?k2 ?k3 ?k4 ?k5 ?kK ?kd ?ku ?_; (case k1 => k_asm); (case k2 => k_asm); (case k3 => k_asm); (case k4 => k_asm); (case k5 => k_asm); (case kK => first | exact rfl | assumption); (case kd => ktr_room); (case ku => ktr_units); intro t9 h9 tk9 F9 N9; (try dsimp only); (try k_fold))))
local macro_rules | `(tactic| walk_at "call ref") => `(tactic| (k_here; (with_reducible show wpAny _ _ (call (Value.ref 218) [Value.str _ _, Value.str _ _, Value.bool false]) _ _ _); k_dflt (refine' useE (c_doneZSX _ _ _ _ (by decide +kernel)) ?k1 ?k2 ?k3 ?k4 ?k5 ?kK ?kd ?ku ?_; (case k1 => k_asm); (case k2 => k_asm); (case k3 => k_asm); (case k4 => k_asm); (case k5 => k_asm); (case kK => first | exact rfl | assumption); (case kd => ktr_room); (case ku => ktr_units); intro t9 h9 tk9 F9 N9; (try dsimp only); (try k_fold))))
local macro_rules | `(tactic| walk_at "call ref") => `(tactic| (k_here; (with_reducible show wpAny _ _ (call (Value.ref 218) [Value.str _ _, Value.bytes _ _, Value.bool true]) _ _ _); k_dflt (refine' useE (c_doneZYX _ _ _ _ (by decide +kernel)) ?k1 ?k2 ?k3 ?k4 ?k5 ?kK ?kd ?ku ?_; (case k1 => k_asm); (case k2 => k_asm); (case k3 => k_asm); (case k4 => k_asm); (case k5 => k_asm); (case kK => first | exact rfl | assumption); (case kd => ktr_room); (case ku => ktr_units); intro t9 h9 tk9 F9 N9; (try dsimp only); (try k_fold))))
local macro_rules | `(tactic| walk_at "call ref") => `(tactic| (k_here; (with_reducible show wpAny _ _ (call (Value.ref 218) [Value.str (W _) _, Value.str (RS _) _, Value.bool false]) _ _ _); k_dflt (refine' useE (c_doneS _ _ _ _ (by first | assumption | exact sem_len_le (by assumption) | exact wit_len | exact Nat.zero_le _ | omega) (by assumption) (by omega)) ?k1 ?k2 ?k3 ?k4 ?k5 ?kK ?kd ?ku ?_; (case k1 => k_asm); (case k2 => k_asm); (case k3 => k_asm); (case k4 => k_asm); (case k5 => k_asm); (case kK => first | exact rfl | assumption); (case kd => ktr_room); (case ku => ktr_units); intro t9 h9 tk9 F9 N9; (try dsimp only); (try k_fold))))
local macro_rules | `(tactic| walk_at "call ref") => `(tactic| (k_here; (with_reducible show wpAny _ _ (call (Value.ref 218) [Value.str (W _) _, Value.bytes (RY _) _, Value.bool true]) _ _ _); k_dflt (refine' useE (c_doneY _ _ _ _ (by first | assumption | exact sem_len_le (by assumption) | exact wit_len | exact Nat.zero_le _ | omega) (by first | assumption | exact sem_oct (by assumption) | exact wit_oct | exact (fun _ h => nomatch h)) (by assumption) (by omega)) ?k1 ?k2 ?k3 ?k4 ?k5 ?kK ?kd ?ku ?_; (case k1 => k_asm); (case k2 => k_asm); (case k3 => k_asm); (case k4 => k_asm); (case k5 => k_asm); (case kK => first | exact rfl | assumption); (case kd => ktr_room); (case ku => ktr_units); intro t9 h9 tk9 F9 N9; (try dsimp only); (try k_fold))))
local macro_rules | `(tactic| walk_at "call ref") => `(tactic| (k_here; (with_reducible show wpAny _ _ (call (Value.ref 218) [Value.str (W [90]) _, Value.str _ _, Value.bool false]) _ _ _); k_dflt (refine' useE (c_doneZS _ _ _) ?k1 ?k2 ?k3 ?k4 ?k5 ?kK ?kd ?ku ?_; (case k1 => k_asm); (case k2 => k_asm); (case k3 => k_asm); (case k4 => k_asm); (case k5 => k_asm); (case kK => first | exact rfl | assumption); (case kd => ktr_room); (case ku => ktr_units); intro t9 h9 tk9 F9 N9; (try dsimp only); (try k_fold))))
local macro_rules | `(tactic| walk_at "call ref") => `(tactic| (k_here; (with_reducible show wpAny _ _ (call (Value.ref 218) [Value.str (W [90]) _, Value.bytes _ _, Value.bool true]) _ _ _); k_dflt (refine' useE (c_doneZY _ _ _) ?k1 ?k2 ?k3 ?k4 ?k5 ?kK ?kd ?ku ?_; (case k1 => k_asm); (case k2 => k_asm); (case k3 => k_asm); (case k4 => k_asm); (case k5 => k_asm); (case kK => first | exact rfl | assumption); (case kd => ktr_room); (case ku => ktr_units); intro t9 h9 tk9 F9 N9; (try dsimp only); (try k_fold))))
local macro_rules | `(tactic| walk_at "call ref") => `(tactic| (k_here; (with_reducible show wpAny _ _ (call (Value.ref 225) [Value.str (W _) _, Value.str (RS _) _]) _ _ _); k_dflt (refine' useE (c_due _ _ _ _ (by first | assumption | exact sem_len_le (by assumption) | exact wit_len | exact Nat.zero_le _ | omega) (by assumption) (by omega)) ?k1 ?k2 ?k3 ?k4 ?k5 ?kK ?kd ?ku ?_; (case k1 => k_asm); (case k2 => k_asm); (case k3 => k_asm); (case k4 => k_asm); (case k5 => k_asm); (case kK => first | exact rfl | assumption); (case kd => ktr_room); (case ku => ktr_units); intro t9 h9 tk9 F9 N9; (try dsimp only); (try k_fold))))
local macro_rules | `(tactic| walk_at "call ref") => `(tactic| (k_here; (with_reducible show wpAny _ _ (call (Value.ref 225) [Value.str (W [90]) _, Value.str _ _]) _ _ _); k_dflt (refine' useE (c_dueZ _ _ _) ?k1 ?k2 ?k3 ?k4 ?k5 ?kK ?kd ?ku ?_; (case k1 => k_asm); (case k2 => k_asm); (case k3 => k_asm); (case k4 => k_asm); (case k5 => k_asm); (case kK => first | exact rfl | assumption); (case kd => ktr_room); (case ku => ktr_units); intro t9 h9 tk9 F9 N9; (try dsimp only); (try k_fold))))
local macro_rules | `(tactic| walk_at "call ref") => `(tactic| (k_here; (with_reducible show wpAny _ _ (call (Value.ref 218) [Value.str _ _, Value.str (RS _) _, Value.bool false]) _ _ _); k_dflt (refine' useE (c_doneRS _ _ _ _ _ (by assumption) (by first | assumption | exact sem_len_le (by assumption) | exact wit_len | exact Nat.zero_le _ | omega)) ?k1 ?k2 ?k3 ?k4 ?k5 ?kK ?kd ?ku ?_; (case k1 => k_asm); (case k2 => k_asm); (case k3 => k_asm); (case k4 => k_asm); (case k5 => k_asm); (case kK => first | exact rfl | assumption); (case kd => ktr_room); (case ku => ktr_units); intro t9 h9 tk9 F9 N9; (try dsimp only); (try k_fold))))
local macro_rules | `(tactic| walk_at "call ref") => `(tactic| (k_here; (with_reducible show wpAny _ _ (call (Value.ref 218) [Value.str _ _, Value.bytes (RY _) _, Value.bool true]) _ _ _); k_dflt (refine' useE (c_doneRY _ _ _ _ _ (by assumption) (by first | assumption | exact sem_len_le (by assumption) | exact wit_len | exact Nat.zero_le _ | omega) (by first | assumption | exact sem_oct (by assumption) | exact wit_oct | exact (fun _ h => nomatch h))) ?k1 ?k2 ?k3 ?k4 ?k5 ?kK ?kd ?ku ?_; (case k1 => k_asm); (case k2 => k_asm); (case k3 => k_asm); (case k4 => k_asm); (case k5 => k_asm); (case kK => first | exact rfl | assumption); (case kd => ktr_room); (case ku => ktr_units); intro t9 h9 tk9 F9 N9; (try dsimp only); (try k_fold))))
local macro_rules | `(tactic| walk_at "call ref") => `(tactic| (k_here; (with_reducible show wpAny _ _ (call (Value.ref 218) [Value.str _ _, Value.str (RS _) _, Value.bool false]) _ _ _); k_dflt (refine' useE (c_doneLS _ _ _ _ _ (by assumption) (by first | assumption | exact sem_len_le (by assumption) | exact wit_len | exact Nat.zero_le _ | omega)) ?k1 ?k2 ?k3 ?k4 ?k5 ?kK ?kd ?ku ?_; (case k1 => k_asm); (case k2 => k_asm); (case k3 => k_asm); (case k4 => k_asm); (case k5 => k_asm); (case kK => first | exact rfl | assumption); (case kd => ktr_room); (case ku => ktr_units); intro t9 h9 tk9 F9 N9; (try dsimp only); (try k_fold))))
local macro_rules | `(tactic| walk_at "call ref") => `(tactic| (k_here; (with_reducible show wpAny _ _ (call (Value.ref 218) [Value.str _ _, Value.bytes (RY _) _, Value.bool true]) _ _ _); k_dflt (refine' useE (c_doneLY _ _ _ _ _ (by assumption) (by first | assumption | exact sem_len_le (by assumption) | exact wit_len | exact Nat.zero_le _ | omega) (by first | assumption | exact sem_oct (by assumption) | exact wit_oct | exact (fun _ h => nomatch h))) ?k1 ?k2 ?k3 ?k4 ?k5 ?kK ?kd ?ku ?_; (case k1 => k_asm); (case k2 => k_asm); (case k3 => k_asm); (case k4 => k_asm); (case k5 => k_asm); (case kK => first | exact rfl | assumption); (case kd => ktr_room); (case ku => ktr_units); intro t9 h9 tk9 F9 N9; (try dsimp only); (try k_fold))))
local macro_rules | `(tactic| walk_at "call ref") => `(tactic| (k_here; (with_reducible show wpAny _ _ (call (Value.ref 218) [Value.str (_ ++ Txt.mul (Str.ofString "S") _ ++ Txt.mul (Str.ofString "D") _) _, Value.str (RS _) _, Value.bool false]) _ _ _); k_dflt (refine' useE (c_doneWS _ _ _ _ _ (by assumption) (by assumption) (by assumption) (by assumption) (by assumption)) ?k1 ?k2 ?k3 ?k4 ?k5 ?kK ?kd ?ku ?_; (case k1 => k_asm); (case k2 => k_asm); (case k3 => k_asm); (case k4 => k_asm); (case k5 => k_asm); (case kK => first | exact rfl | assumption); (case kd => ktr_room); (case ku => ktr_units); intro t9 h9 tk9 F9 N9; (try dsimp only); (try k_fold))))
local macro_rules | `(tactic| walk_at "call ref") => `(tactic| (k_here; (with_reducible show wpAny _ _ (call (Value.ref 218) [Value.str (_ ++ Txt.mul (Str.ofString "S") _ ++ Txt.mul (Str.ofString "D") _) _, Value.bytes (RY _) _, Value.bool true]) _ _ _); k_dflt (refine' useE (c_doneWY _ _ _ _ _ (by assumption) (by assumption) (by assumption) (by assumption) (by assumption)) ?k1 ?k2 ?k3 ?k4 ?k5 ?kK ?kd ?ku ?_; (case k1 => k_asm); (case k2 => k_asm); (case k3 => k_asm); (case k4 => k_asm); (case k5 => k_asm); (case kK => first | exact rfl | assumption); (case kd => ktr_room); (case ku => ktr_units); intro t9 h9 tk9 F9 N9; (try dsimp only); (try k_fold))))
local macro_rules | `(tactic| walk_at "eval IfExp") => `(tactic| (k_here; (fail_if_success (with_reducible show wpAny _ _ _ (NumPost _ _ _ _) _ _)); k_dflt (refine' num_join ?kF ?hev ?h; (case kF => k_asm)); rotate_left; intro l9 vs9 ns9 n9 h9 tk9 F9 N9 hi9 hn9 hm9; (try k_fold); rotate_left))
local macro_rules | `(tactic| walk_at "storeName") => `(tactic| (k_here; (with_reducible show wpAny _ _ (storeName _ (Str.ofString "octets") (Value.bool (_ == _))) _ _ _); refine bool_split (fun hb9 => ?_) (fun hb9 => ?_)))
local macro_rules | `(tactic| walk_at "pyIter ref") => `(tactic| ((with_reducible show wpAny _ _ (pyIter (Value.ref _)) (fun it s₂ => LoopAtV _ _ _ _ _ (Str.ofString "k") _ _ _ it s₂) _ _); k_here; (rename Fr _ _ _ _ => lF'); (rename News _ _ _ _ => lN'); (rename IsRange _ _ _ _ _ _ _ _ => rgX); k_dflt (refine' loop2 [Str.ofString "text", Str.ofString "thing", Str.ofString "word", Str.ofString "normal", Str.ofString "told", Str.ofString "left", Str.ofString "right"] ?hh rgX ?hb0 ?hb1 lF' lN' ?_ ?_; (case hh => exact rfl); (case hb0 => omega); (case hb1 => omega)); (clear lF' lN' rgX); rotate_left; (intro u9 h9 tk9 kFr kNews; have kMark := kstMark; (try k_fold)); rotate_left; (intro k9 t9 u9 h9 tk9 own9 hk0 hk1 hoff9 kFr kNews; (try simp only [List.nil_append, List.cons_append, List.append_nil] at kNews); (try simp only [List.map_cons, List.map_nil] at hoff9); have kMark := kstMark; (try k_fold))))
local macro_rules | `(tactic| walk_at "compareOp NotEq str str") => `(tactic| (k_here; k_dflt (refine ne_sameS (by first | exact rfl | exact eqS1 (by assumption) | exact eqSZ (by assumption) | exact eqRS (by assumption)) ?_)))
local macro_rules | `(tactic| walk_at "compareOp NotEq bytes bytes") => `(tactic| (k_here; k_dflt (refine ne_sameY (by first | exact rfl | exact eqY1 (by assumption) | exact eqYZ (by assumption) | exact eqRY (by assumption)) ?_)))
local macro_rules | `(tactic| walk_at "InvEndN") => `(tactic| ((rename News _ _ _ _ => nE'); k_dflt (refine' loop2_close ?c1 nE' ?c2 ?c3 ?c4; (case c1 => assumption); (case c2 => first | kst_allIn | ((with_unfolding_all ((try simp only [List.nil_append, List.cons_append]); k_allIn)))); (case c3 => (intro p hp; first | k_ownIn | kst_mem)); (case c4 => (intro z h2 h3; simp only [List.contains_cons, List.contains_nil, Bool.or_false, Bool.or_eq_false_iff, beq_eq_false_iff_ne, ne_eq] at h3; simp [h2, h3]; done)))))
local macro_rules | `(tactic| walk_at "call type:range") => `(tactic| ((with_reducible show wpAny _ _ (call _ [_]) _ _ _); (rename Fr _ _ _ _ => F'); (rename News _ _ _ _ => N'); (with_unfolding_all refine range1_rows F' N' ?_); intro _ _ _ _ _ _ _ _ _))
local macro_rules | `(tactic| walk_at "ItemsRest") => `(tactic| (k_here; k_dflt (refine' rules_calm [Str.ofString "left", Str.ofString "right"] ?_ ?_ ?_; rotate_left; (intro X9 Y9 t9 s9 u9 h9 tk9 oI9 hr9 hc9 kFr kNews; have kMark := kstMark; (try k_fold)); rotate_left; (intro u9 h9 tk9 kFr kNews; have kMark := kstMark; (try k_fold)); rotate_left; ((intro v9 hv9; (simp only [RedVs, List.mem_cons, List.not_mem_nil, or_false] at hv9); (rcases hv9 with e9 | e9 | e9 | e9 | e9 | e9 | e9 | e9 | e9) <;> (subst e9; intro u9 h9 tk9 oI9 hc9 kFr kNews; have kMark := kstMark; (try k_fold)))))))
local macro_rules | `(tactic| walk_at "RuleIn") => `(tactic| (k_dflt (refine' ⟨_, _, _, _, _, _, ?hr, rfl, ?hF, ?hN⟩; (case hF => assumption); (case hN => first | assumption | k_asm); (case hr => decide +kernel))))
local macro_rules | `(tactic| walk_at "ItemsRest") => `(tactic| (k_here; k_dflt (refine' lead_loop (P := WitY) [Str.ofString "lead", Str.ofString "i", Str.ofString "j", Str.ofString "told"] ?hm ?hD ?h0 ?_ ?_; (case hm => first | exact .tail _ (.head _) | k_mem); (case hD => first | exact .head _ | k_mem); (case h0 => exact wit0Y); rotate_left; (intro vs9 n9 u9 h9 tk9 hP9 kFr kNews; have hw9 := witY_len hP9; have kMark := kstMark; (try k_fold)); rotate_left; (intro a9 X9 t9 vs9 n9 u9 h9 tk9 oI9 ha9 hc9 hP9 kFr kNews; have kMark := kstMark; (try k_fold)))))
local macro_rules | `(tactic| walk_at "ItemsRest") => `(tactic| (k_here; k_dflt (refine' lead_loop (P := WitS) [Str.ofString "lead", Str.ofString "i", Str.ofString "j", Str.ofString "told"] ?hm ?hD ?h0 ?_ ?_; (case hm => first | exact .tail _ (.head _) | k_mem); (case hD => first | exact .head _ | k_mem); (case h0 => exact wit0S); rotate_left; (intro vs9 n9 u9 h9 tk9 hP9 kFr kNews; have hw9 := witS_len hP9; have kMark := kstMark; (try k_fold)); rotate_left; (intro a9 X9 t9 vs9 n9 u9 h9 tk9 oI9 ha9 hc9 hP9 kFr kNews; have kMark := kstMark; (try k_fold)))))
local macro_rules | `(tactic| walk_at "pyIter ref") => `(tactic| ((with_reducible show wpAny _ _ (pyIter (Value.ref _)) (fun it s₂ => LoopAtV _ _ _ _ _ (Str.ofString "i") _ _ _ it s₂) _ _); k_here; (rename Fr _ _ _ _ => lF'); (rename News _ _ _ _ => lN'); (rename IsRange _ _ _ _ _ _ _ _ => rgX); k_dflt (refine' wit_loop WitY 3 [Str.ofString "told", Str.ofString "j"] ?hh rgX lF' lN' ?h0 ?_ ?_; (case hh => exact rfl); (case h0 => assumption)); (clear lF' lN' rgX); rotate_left; (intro vs9 n9 u9 h9 tk9 hP9 kFr kNews; have kMark := kstMark; (try k_fold)); rotate_left; (intro vs9 n9 pre9 k9 t9 u9 h9 tk9 own9 hk9 hp9 hoff9 hP9 kFr kNews; have hk0 : 0 ≤ k9 := (by omega); have hk1 : k9 < 3 := (by omega); (try simp only [List.nil_append, List.cons_append, List.append_nil] at kNews); (try simp only [List.map_cons, List.map_nil] at hoff9); have kMark := kstMark; (try k_fold))))
local macro_rules | `(tactic| walk_at "pyIter ref") => `(tactic| ((with_reducible show wpAny _ _ (pyIter (Value.ref _)) (fun it s₂ => LoopAtV _ _ _ _ _ (Str.ofString "i") _ _ _ it s₂) _ _); k_here; (rename Fr _ _ _ _ => lF'); (rename News _ _ _ _ => lN'); (rename IsRange _ _ _ _ _ _ _ _ => rgX); k_dflt (refine' wit_loop WitS 3 [Str.ofString "told", Str.ofString "j"] ?hh rgX lF' lN' ?h0 ?_ ?_; (case hh => exact rfl); (case h0 => assumption)); (clear lF' lN' rgX); rotate_left; (intro vs9 n9 u9 h9 tk9 hP9 kFr kNews; have kMark := kstMark; (try k_fold)); rotate_left; (intro vs9 n9 pre9 k9 t9 u9 h9 tk9 own9 hk9 hp9 hoff9 hP9 kFr kNews; have hk0 : 0 ≤ k9 := (by omega); have hk1 : k9 < 3 := (by omega); (try simp only [List.nil_append, List.cons_append, List.append_nil] at kNews); (try simp only [List.map_cons, List.map_nil] at hoff9); have kMark := kstMark; (try k_fold))))
local macro_rules | `(tactic| walk_at "pyIter ref") => `(tactic| ((with_reducible show wpAny _ _ (pyIter (Value.ref _)) (fun it s₂ => LoopAtV _ _ _ _ _ (Str.ofString "j") _ _ _ it s₂) _ _); k_here; (rename Fr _ _ _ _ => lF'); (rename News _ _ _ _ => lN'); (rename IsRange _ _ _ _ _ _ _ _ => rgX); k_dflt (refine' wit_loop WitY 1 [Str.ofString "told"] ?hh rgX lF' lN' ?h0 ?_ ?_; (case hh => exact rfl); (case h0 => assumption)); (clear lF' lN' rgX); rotate_left; (intro vs9 n9 u9 h9 tk9 hP9 kFr kNews; have kMark := kstMark; (try k_fold)); rotate_left; (intro vs9 n9 pre9 k9 t9 u9 h9 tk9 own9 hk9 hp9 hoff9 hP9 kFr kNews; have hk0 : 0 ≤ k9 := (by omega); have hk1 : k9 < 3 := (by omega); (try simp only [List.nil_append, List.cons_append, List.append_nil] at kNews); (try simp only [List.map_cons, List.map_nil] at hoff9); have kMark := kstMark; (try k_fold))))
local macro_rules | `(tactic| walk_at "pyIter ref") => `(tactic| ((with_reducible show wpAny _ _ (pyIter (Value.ref _)) (fun it s₂ => LoopAtV _ _ _ _ _ (Str.ofString "j") _ _ _ it s₂) _ _); k_here; (rename Fr _ _ _ _ => lF'); (rename News _ _ _ _ => lN'); (rename IsRange _ _ _ _ _ _ _ _ => rgX); k_dflt (refine' wit_loop WitS 1 [Str.ofString "told"] ?hh rgX lF' lN' ?h0 ?_ ?_; (case hh => exact rfl); (case h0 => assumption)); (clear lF' lN' rgX); rotate_left; (intro vs9 n9 u9 h9 tk9 hP9 kFr kNews; have kMark := kstMark; (try k_fold)); rotate_left; (intro vs9 n9 pre9 k9 t9 u9 h9 tk9 own9 hk9 hp9 hoff9 hP9 kFr kNews; have hk0 : 0 ≤ k9 := (by omega); have hk1 : k9 < 3 := (by omega); (try simp only [List.nil_append, List.cons_append, List.append_nil] at kNews); (try simp only [List.map_cons, List.map_nil] at hoff9); have kMark := kstMark; (try k_fold))))
local macro_rules | `(tactic| walk_at "InvEndN") => `(tactic| ((rename News _ _ _ _ => nE'); (try simp only [List.push_toArray] at nE'); k_dflt (refine' wit_close (P := WitY) ?c1 nE' ?c2 ?c3 ?c4 ?c5 ?c6 ?c7; (case c1 => assumption); (case c2 => first | exact .head _ | exact .tail _ (.head _)); (case c3 => first | kst_allIn | ((with_unfolding_all ((try simp only [List.nil_append, List.cons_append]); k_allIn)))); (case c4 => (intro p hp; first | k_ownIn | kst_mem)); (case c5 => first | with_reducible assumption | exact witY_next (by with_reducible assumption) (by with_reducible assumption) (by with_reducible assumption) (by with_reducible assumption)); (case c6 => omega); (case c7 => (first | (intro z h2 h3; simp only [List.contains_cons, List.contains_nil, Bool.or_false, Bool.or_eq_false_iff, beq_eq_false_iff_ne, ne_eq] at h3; simp [h2, h3]; done) | (intro z h2 h3; simp only [List.contains_cons, List.contains_nil, Bool.or_false, beq_eq_false_iff_ne, ne_eq] at h3; simp [h2, h3]; done))))))
local macro_rules | `(tactic| walk_at "InvEndN") => `(tactic| ((rename News _ _ _ _ => nE'); (try simp only [List.push_toArray] at nE'); k_dflt (refine' wit_close (P := WitS) ?c1 nE' ?c2 ?c3 ?c4 ?c5 ?c6 ?c7; (case c1 => assumption); (case c2 => first | exact .head _ | exact .tail _ (.head _)); (case c3 => first | kst_allIn | ((with_unfolding_all ((try simp only [List.nil_append, List.cons_append]); k_allIn)))); (case c4 => (intro p hp; first | k_ownIn | kst_mem)); (case c5 => first | with_reducible assumption | exact witS_next (by with_reducible assumption) (by with_reducible assumption) (by with_reducible assumption) (by with_reducible assumption)); (case c6 => omega); (case c7 => (first | (intro z h2 h3; simp only [List.contains_cons, List.contains_nil, Bool.or_false, Bool.or_eq_false_iff, beq_eq_false_iff_ne, ne_eq] at h3; simp [h2, h3]; done) | (intro z h2 h3; simp only [List.contains_cons, List.contains_nil, Bool.or_false, beq_eq_false_iff_ne, ne_eq] at h3; simp [h2, h3]; done))))))
local macro_rules | `(tactic| walk_at "UnrEndW") => `(tactic| ((rename News _ _ _ _ => nE'); k_dflt (refine' calm_close ?c1 nE' ?c2 ?c3 ?c4; (case c1 => assumption); (case c2 => first | exact (fun p hp => hp) | kst_allIn | k_allIn); (case c3 => exact lt_news (by assumption)); (case c4 => (first | (intro z h3; simp only [List.contains_cons, List.contains_nil, Bool.or_false, Bool.or_eq_false_iff, beq_eq_false_iff_ne, ne_eq] at h3; simp [h3]; done) | (intro z h3; simp only [List.contains_cons, List.contains_nil, Bool.or_false, beq_eq_false_iff_ne, ne_eq] at h3; simp [h3]; done))))))
local macro_rules | `(tactic| walk_at "UnrEndW") => `(tactic| ((rename News _ _ _ _ => nE'); k_dflt (refine' lead_close (P := WitY) ?c1 ?c0 ?c2 nE' ?c3 ?c4 ?c5; (case c1 => exact Nat.ne_of_lt (by omega)); (case c0 => exact Nat.ne_of_lt (by omega)); (case c2 => assumption); (case c3 => assumption); (case c4 => omega); (case c5 => (first | (intro z h3; simp only [List.contains_cons, List.contains_nil, Bool.or_false, Bool.or_eq_false_iff, beq_eq_false_iff_ne, ne_eq] at h3; simp [h3]; done) | (intro z h3; simp only [List.contains_cons, List.contains_nil, Bool.or_false, beq_eq_false_iff_ne, ne_eq] at h3; simp [h3]; done))))))
local macro_rules | `(tactic| walk_at "UnrEndW") => `(tactic| ((rename News _ _ _ _ => nE'); k_dflt (refine' lead_close (P := WitS) ?c1 ?c0 ?c2 nE' ?c3 ?c4 ?c5; (case c1 => exact Nat.ne_of_lt (by omega)); (case c0 => exact Nat.ne_of_lt (by omega)); (case c2 => assumption); (case c3 => assumption); (case c4 => omega); (case c5 => (first | (intro z h3; simp only [List.contains_cons, List.contains_nil, Bool.or_false, Bool.or_eq_false_iff, beq_eq_false_iff_ne, ne_eq] at h3; simp [h3]; done) | (intro z h3; simp only [List.contains_cons, List.contains_nil, Bool.or_false, beq_eq_false_iff_ne, ne_eq] at h3; simp [h3]; done))))))
local macro_rules | `(tactic| walk_at "compareOp In bytes ref") => `(tactic| (k_here; k_dflt (refine' in_wY ?N ?m ?i ?ha ?p ?q ?_; (case N => k_asm); (case m => first | exact .head _ | k_mem); (case i => with_reducible assumption); (case ha => with_reducible assumption); (case p => with_reducible assumption); (case q => with_reducible assumption))))
local macro_rules | `(tactic| walk_at "compareOp In str ref") => `(tactic| (k_here; k_dflt (refine' in_wS ?N ?m ?i ?ha ?p ?q ?_; (case N => k_asm); (case m => first | exact .head _ | k_mem); (case i => with_reducible assumption); (case ha => with_reducible assumption); (case p => with_reducible assumption); (case q => with_reducible assumption))))
local macro_rules | `(tactic| walk_at "NumPost") => `(tactic| ((rename News _ _ _ _ => nE'); k_dflt (refine' num_post ?c1 nE' ?c2 ?c3 ?c4 ?c5; (case c1 => assumption); (case c2 => exact .head _); (case c3 => assumption); (case c4 => (simp only [List.length_take, List.length_append, List.length_cons, List.length_nil]; omega)); (case c5 => (simp only [List.length_take, List.length_append, List.length_cons, List.length_nil]; omega)))))
local macro_rules | `(tactic| walk_at "exec For Name Call cons nil") => `(tactic| (k_here; (rename Fr _ _ _ _ => lF'); (with_unfolding_all refine' For_invVF lF' ?k1 ?k2 ?_; (case k1 => exact rfl); (case k2 => exact rfl); k_whole)))
local macro_rules | `(tactic| walk_at "call builtin:len") => `(tactic| (k_here; (with_reducible show wpAny _ _ (call (Value.builtin "len") [Value.ref _]) _ _ _); k_dflt (refine' kst_len ?k1 ?k2 ?k3 ?k4 ?_; (case k1 => k_asm); (case k2 => exact .head _); (case k3 => assumption); (case k4 => decide))))
local macro_rules | `(tactic| walk_at "binaryOp Add str str") => `(tactic| (k_here; (with_reducible show wpAny _ _ (binaryOp Operator.Add (Value.str _ _) (Value.str (Txt.mul (Str.ofString "S") _) _)) _ _ _); k_dflt (refine' add_w1 ?c1 ?c2 ?_; (case c1 => assumption); (case c2 => assumption)); intro _ _))
local macro_rules | `(tactic| walk_at "binaryOp Add str str") => `(tactic| (k_here; (with_reducible show wpAny _ _ (binaryOp Operator.Add (Value.str _ _) (Value.str (Txt.mul (Str.ofString "D") _) _)) _ _ _); k_dflt (refine' add_w2 ?c1 ?c2 ?c3 ?_; (case c1 => assumption); (case c2 => assumption); (case c3 => assumption)); intro _ _))
local macro_rules | `(tactic| walk_at "call builtin:list.append") => `(tactic| (k_here; (with_reducible show wpAny _ _ (call (Value.builtin _) [Value.ref _, _]) _ _ _); k_dflt (refine' append_K ?k1 ?k2 ?k3 ?_ ?z; (case k1 => k_asm); (case k2 => k_asm); (case k3 => k_upd); (case z => first | exact witS_size (by with_reducible assumption) | exact witY_size (by with_reducible assumption)); k_whole); intro h' F' N'; (try k_sweep)))
set_option maxRecDepth 100000 in
set_option maxHeartbeats 8000000 in
theorem law_holds : PySem.Challenge.rw_ab6011_01.Holds := tp (by
  w_top off
  k_with_none
  k_go0
  all_goals try k_fold
  k_steps)
end
end Mine
theorem PySem.Challenge.cw_ab6011_01_holds : PySem.Challenge.rw_ab6011_01.Holds :=
  Mine.law_holds
