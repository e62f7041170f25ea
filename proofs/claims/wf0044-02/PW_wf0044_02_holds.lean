import PyProof.Rows.All
import Wide.All
import OpenK.AllK
import Wide.FinOn
import PySem.Challenge.RW_wf0044_02
set_option Elab.async false
local macro_rules | `(tactic| omega) => `(tactic| first | decide | lia | omega +splitNatSub)
section
open PySem PySem.W PyProof.Rows PySem.Calls
set_option maxRecDepth 100000
namespace Mine
abbrev Led := List (Addr × Obj)
noncomputable def fdv (a b : Int) : UInt64 := Float64.ofFrac (decide (a < 0) != decide (b < 0)) a.natAbs b.natAbs
section
variable {prog : Program} {w : World} {A : Around} {E : Value → Shared → Prop} {s : Shared} {h₀ : Heap} {L : Addr} {m : Str → Option Value} {news : Led}
theorem max3_K {a b c : Int} {t u x : Tok} {Q : Value → Shared → Prop} (hh : A.handled = none) (F : Fr h₀ L s.heap m) (N : News h₀ L s.heap news)
    (h : ∀ t' h' tk, Fr h₀ L h' m → News h₀ L h' news → Q (.int ((max a (max b c))) t') { s with heap := h', toks := tk }) :
    wpAny (model prog w) A (call (.builtin "max") [.int a t, .int b u, .int c x]) Q E s := by
  refine max_three_ints hh fun h' tk hk => ?_
  have key : ∃ t', (if b > a then (if c > b then Value.int c x else .int b u) else (if c > a then .int c x else .int a t)) = Value.int ((max a (max b c))) t' := by
    by_cases h1 : b > a
    · by_cases h2 : c > b
      · exact ⟨x, by rw [if_pos h1, if_pos h2, Int.max_eq_right (Int.le_of_lt h2), Int.max_eq_right (Int.le_of_lt (Int.lt_trans h1 h2))]⟩
      · exact ⟨u, by rw [if_pos h1, if_neg h2, Int.max_eq_left (Int.not_lt.mp h2), Int.max_eq_right (Int.le_of_lt h1)]⟩
    · by_cases h2 : c > a
      · exact ⟨x, by rw [if_neg h1, if_pos h2, Int.max_eq_right (Int.le_of_lt (Int.lt_of_le_of_lt (Int.not_lt.mp h1) h2)), Int.max_eq_right (Int.le_of_lt h2)]⟩
      · exact ⟨t, by rw [if_neg h1, if_neg h2, Int.max_eq_left (Int.max_le.mpr ⟨Int.not_lt.mp h1, Int.not_lt.mp h2⟩)]⟩
  obtain ⟨t', e⟩ := key
  rw [e]
  exact h t' h' tk (F.grownK hk) (N.grown hk)
theorem min3_K {a b c : Int} {t u x : Tok} {Q : Value → Shared → Prop} (hh : A.handled = none) (F : Fr h₀ L s.heap m) (N : News h₀ L s.heap news)
    (h : ∀ t' h' tk, Fr h₀ L h' m → News h₀ L h' news → Q (.int ((min a (min b c))) t') { s with heap := h', toks := tk }) :
    wpAny (model prog w) A (call (.builtin "min") [.int a t, .int b u, .int c x]) Q E s := by
  refine min_three_ints hh fun h' tk hk => ?_
  have key : ∃ t', (if b < a then (if c < b then Value.int c x else .int b u) else (if c < a then .int c x else .int a t)) = Value.int ((min a (min b c))) t' := by
    by_cases h1 : b < a
    · by_cases h2 : c < b
      · exact ⟨x, by rw [if_pos h1, if_pos h2, Int.min_eq_right (Int.le_of_lt h2), Int.min_eq_right (Int.le_of_lt (Int.lt_trans h2 h1))]⟩
      · exact ⟨u, by rw [if_pos h1, if_neg h2, Int.min_eq_left (Int.not_lt.mp h2), Int.min_eq_right (Int.le_of_lt h1)]⟩
    · by_cases h2 : c < a
      · exact ⟨x, by rw [if_neg h1, if_pos h2, Int.min_eq_right (Int.le_of_lt (Int.lt_of_lt_of_le h2 (Int.not_lt.mp h1))), Int.min_eq_right (Int.le_of_lt h2)]⟩
      · exact ⟨t, by rw [if_neg h1, if_neg h2, Int.min_eq_left (Int.le_min.mpr ⟨Int.not_lt.mp h1, Int.not_lt.mp h2⟩)]⟩
  obtain ⟨t', e⟩ := key
  rw [e]
  exact h t' h' tk (F.grownK hk) (N.grown hk)
theorem divii_K {a b : Int} {t u : Tok} {Q : Value → Shared → Prop} (hA : A.handled = none) (hfit : -1000000000 < a ∧ a < 1000000000) (hb : b ≠ 0)
    (h : Q (.float (fdv a b) s.toks) { s with toks := s.toks + 1 }) : wpAny (model prog w) A (binaryOp .Div (.int a t) (.int b u)) Q E s :=
  PySem.Flt.div_ii_fits hA (Nat.lt_of_lt_of_le (m := 2 ^ 30) (by omega) (Nat.pow_le_pow_right (by decide) (by decide))) (fun e => absurd e hb) (fun _ _ => h)
end
noncomputable def Spec (prog : Program) (w : World) (K : Frag) (p : Program) (loose : List Str) (mean : ExcName → Option Value) (mg mb : Str → Option Value) (dd uu : Nat) (f : Addr) (vs : List Value) (T : Led) (Post : Value → Led → Prop) : Prop :=
  ∀ (dp un : Nat) (gd : Option (List Code)) (cn : Str) (cs : Scope) (a : Addr) (ccd : Value) (cl : List (Str × Addr)) (outer : List Env) (A₀ : Around) (base h₀ : Heap) (L : Addr) (m : Str → Option Value) (s : Shared) (Q E : Value → Shared → Prop),
    Below A₀ base outer h₀ → Fr h₀ L s.heap m → K.In h₀ → News h₀ L s.heap T → Top p loose mean mg mb h₀ → cs.kind = .function → dp + dd < recursionLimit → un + uu < cLine →
    (∀ (r : Value) (new : Led) (h' : Heap) (tk' : Nat), Fr h₀ L h' m → News h₀ L h' (new ++ T) → (∀ q ∈ T, ∀ p ∈ new, q.1 < p.1) → Post r new → Q r { s with heap := h', toks := tk' }) →
    wpAny (model prog w) (ktrTop dp un gd cn cs L a ccd cl outer) (call (.ref f) vs) Q E s

abbrev tupObj (vs : List Value) : Obj := { cls := .type "tuple", data := .seq vs.toArray }
theorem hret1 {h₀ : Heap} {L D : Addr} {m : Str → Option Value} {T : Led} {s : Shared} {Q : Value → Shared → Prop} {Post : Value → Led → Prop} {h' : Heap} {tk' : Nat} {o : Obj}
    (hret : ∀ (r : Value) (new : Led) (h' : Heap) (tk' : Nat), Fr h₀ L h' m → News h₀ L h' (new ++ T) → (∀ q ∈ T, ∀ p ∈ new, q.1 < p.1) → Post r new → Q r { s with heap := h', toks := tk' })
    (F : Fr h₀ L h' m) (N : News h₀ L h' ((D, o) :: T)) (l : ∀ p ∈ T, p.1 < D) (hp : Post (.ref D) [(D, o)]) : Q (.ref D) { s with heap := h', toks := tk' } :=
  hret _ [(D, o)] _ _ F N (fun q hq p hp => by rw [List.mem_singleton.mp hp]; exact l q hq) hp
theorem hret0 {h₀ : Heap} {L : Addr} {m : Str → Option Value} {T : Led} {s : Shared} {Q : Value → Shared → Prop} {Post : Value → Led → Prop} {h' : Heap} {tk' : Nat} {v : Value}
    (hret : ∀ (r : Value) (new : Led) (h' : Heap) (tk' : Nat), Fr h₀ L h' m → News h₀ L h' (new ++ T) → (∀ q ∈ T, ∀ p ∈ new, q.1 < p.1) → Post r new → Q r { s with heap := h', toks := tk' })
    (F : Fr h₀ L h' m) (N : News h₀ L h' T) (hp : Post v []) : Q v { s with heap := h', toks := tk' } :=
  hret _ [] _ _ F N (fun _ _ _ hp => nomatch hp) hp

noncomputable def rgbH (r g b : Int) : UInt64 :=
  if (min r (min g b)) = (max r (max g b)) then 0 else
  let rg := (max r (max g b)) - (min r (min g b))
  let rc := fdv ((max r (max g b)) - r) rg
  let gc := fdv ((max r (max g b)) - g) rg
  let bc := fdv ((max r (max g b)) - b) rg
  let h := if r = (max r (max g b)) then Float64.sub bc gc else if g = (max r (max g b)) then Float64.sub (Float64.add 4611686018427387904 rc) bc else Float64.sub (Float64.add 4616189618054758400 gc) rc
  (Float64.divmod (Float64.div h 4618441417868443648) 4607182418800017408).2
noncomputable def rgbS (r g b : Int) : UInt64 := if (min r (min g b)) = (max r (max g b)) then 0 else fdv ((max r (max g b)) - (min r (min g b))) ((max r (max g b)))
noncomputable def rgbPost (r g b : Int) (v : Value) (new : Led) : Prop :=
  ∃ D u1 u2 u3, v = .ref D ∧ new = [(D, tupObj [.float (rgbH r g b) u1, .float (rgbS r g b) u2, .int ((max r (max g b))) u3])]
theorem rgbPost0 {r g b : Int} {D : Addr} {u1 u2 u3 : Tok} (h : (min r (min g b)) = (max r (max g b))) : rgbPost r g b (.ref D) [(D, tupObj [.float 0 u1, .float 0 u2, .int ((max r (max g b))) u3])] := by
  refine ⟨D, u1, u2, u3, rfl, ?_⟩
  unfold rgbH rgbS
  rw [if_pos h, if_pos h]
theorem rgbPostN {r g b : Int} {D : Addr} {u1 u2 u3 : Tok} {H S : UInt64} (h : (min r (min g b)) ≠ (max r (max g b)))
   (hs : S = fdv ((max r (max g b)) - (min r (min g b))) ((max r (max g b))))
   (hh : H = (Float64.divmod (Float64.div (if r = (max r (max g b)) then Float64.sub (fdv ((max r (max g b)) - b) ((max r (max g b)) - (min r (min g b)))) (fdv ((max r (max g b)) - g) ((max r (max g b)) - (min r (min g b)))) else if g = (max r (max g b)) then Float64.sub (Float64.add 4611686018427387904 (fdv ((max r (max g b)) - r) ((max r (max g b)) - (min r (min g b))))) (fdv ((max r (max g b)) - b) ((max r (max g b)) - (min r (min g b)))) else Float64.sub (Float64.add 4616189618054758400 (fdv ((max r (max g b)) - g) ((max r (max g b)) - (min r (min g b))))) (fdv ((max r (max g b)) - r) ((max r (max g b)) - (min r (min g b))))) 4618441417868443648) 4607182418800017408).2) : rgbPost r g b (.ref D) [(D, tupObj [.float H u1, .float S u2, .int ((max r (max g b))) u3])] := by
  refine ⟨D, u1, u2, u3, rfl, ?_⟩
  unfold rgbH rgbS
  rw [if_neg h, if_neg h, hs, hh]
end Mine
end
section
open PySem PySem.W PyProof.Rows PySem.Calls
open PySem.Sem (wp)
set_option maxRecDepth 100000
namespace Mine
noncomputable def badIds : List String := Builtin.Bytes.decodersThatHold ++ ["bytearray.__contains__", "bytearray.__mod__", "bytearray.__rmod__", "_struct.pack_into.held", "bytearray.find.held"]
noncomputable def holds (c : Code) : Bool := match c with | .builtin id _ => badIds.contains id | _ => false
noncomputable def CleanL (l : List (Code × Pos)) : Prop := ∀ x ∈ l, holds x.1 = false
theorem CleanL.cons {c : Code} {p : Pos} {l : List (Code × Pos)} (h : holds c = false) (k : CleanL l) : CleanL ((c, p) :: l) := fun x hx => by
  rcases List.mem_cons.mp hx with rfl | hx
  · exact h
  · exact k x hx
noncomputable def wpX {α : Type} (M : Model) (A : Around) (t : Sem α) (Q : α → Shared → Prop) (E : Value → Shared → Prop) (s : Shared) : Prop :=
  ∀ Γ p, CleanL Γ.below → holds Γ.code = false → Γ.In A → wp M Γ t (fun a _ s' => Q a s') (fun e _ s' => E e s') p s
noncomputable def codeX (M : Model) (A : Around) (c : Code) (R : Result → Shared → Prop) (s : Shared) : Prop :=
  ∀ Γ p, Γ.code = c → CleanL Γ.below → Γ.Below A → wpCode M Γ R p s
section
variable {α β : Type} {M : Model} {A : Around} {E : Value → Shared → Prop} {s : Shared}
theorem wpX_of_any {t : Sem α} {Q : α → Shared → Prop} (h : wpAny M A t Q E s) : wpX M A t Q E s := fun Γ p _ _ hΓ => h Γ p hΓ
theorem codeX_of_any {c : Code} {R : Result → Shared → Prop} (h : codeAny M A c R s) : codeX M A c R s := fun Γ p hc _ hΓ => h Γ p hc hΓ
theorem wpX_mono {t : Sem α} {Q Q' : α → Shared → Prop} {E' : Value → Shared → Prop} (h : wpX M A t Q E s) (hQ : ∀ a s, Q a s → Q' a s) (hE : ∀ e s, E e s → E' e s) : wpX M A t Q' E' s :=
  fun Γ p h1 h2 hΓ => Sem.wp_mono M Γ t (fun a _ s => hQ a s) (fun e _ s => hE e s) p s (h Γ p h1 h2 hΓ)
theorem codeX_mono {c : Code} {R R' : Result → Shared → Prop} (h : codeX M A c R s) (hR : ∀ r s, R r s → R' r s) : codeX M A c R' s :=
  fun Γ p hc h1 hΓ => wpCode_mono hR (h Γ p hc h1 hΓ)
theorem wpX_bind {m : Sem α} {f : α → Sem β} {Q : β → Shared → Prop} (h : wpX M A m (fun a s' => wpX M A (f a) Q E s') E s) : wpX M A (m >>= f) Q E s := fun Γ p h1 h2 hΓ => by
  rw [Sem.wp_bind']
  exact Sem.wp_mono M Γ m (fun a p' s' h' => h' Γ p' h1 h2 hΓ) (fun _ _ _ h' => h') p s (h Γ p h1 h2 hΓ)
theorem wpX_bindA {m : Sem α} {f : α → Sem β} {Q : β → Shared → Prop} (h : wpAny M A m (fun a s' => wpX M A (f a) Q E s') E s) : wpX M A (m >>= f) Q E s := wpX_bind (wpX_of_any h)
theorem wpX_pure {a : α} {Q : α → Shared → Prop} (h : Q a s) : wpX M A (pure a) Q E s := wpX_of_any (wpAny_pure h)
theorem wpX_holding {vs : List Value} {m : Sem α} {Q : α → Shared → Prop} (h : wpX M A m Q E s) : wpX M A (holding vs m) Q E s :=
  fun Γ p h1 h2 hΓ => by rw [Sem.wp_holding]; exact h Γ p h1 h2 hΓ
theorem wpX_onRaise {m : Sem α} {k : Value → Sem Unit} {Q : α → Shared → Prop}
    (h : wpX M A m Q (fun e s' => wpAny M A (k e) (fun _ s'' => E e s'') E s') s) : wpX M A (m.onRaise k) Q E s := fun Γ p h1 h2 hΓ => by
  rw [Sem.wp_onRaise]
  exact Sem.wp_mono M Γ m (fun _ _ _ h' => h') (fun e p' s' h' => h' Γ p' hΓ) p s (h Γ p h1 h2 hΓ)
theorem wpX_call {f : Value} {pos : List Value} {kw : List (Str × Value)} {Q : Value → Shared → Prop}
    (hc : codeX M A (.call f ⟨pos, kw⟩) (fun r s' => match r with | .ok (.ret v) => Q v s' | .ok _ => False | .error e => E e s') s) : wpX M A (call f pos kw) Q E s := fun Γ p h1 h2 hΓ => by
  show wp M Γ (runValue (.call f ⟨pos, kw⟩)) _ _ p s
  rw [Sem.wp_runValue]
  exact hc _ p rfl (CleanL.cons h2 h1) (hΓ.enter _ none p (by intro x; cases x))
theorem codeX_of_tree {c : Code} {R : Result → Shared → Prop} (hc : holds c = false)
    (h : wpX M (A.under c) (M.den c) (fun fin s' => match fin with | .done f => R (.ok f) s' | .again c' => c'.quiet = true ∧ codeX M A c' R s')
      (fun e s' => R (.error e) s') s) : codeX M A c R s := fun Γ p e h1 hΓ => by
  rw [wpCode_iff_wp, e]
  refine Sem.wp_mono M Γ _ (fun fin p' s' h' => ?_) (fun _ _ _ h' => h') p s (h Γ p h1 (e ▸ hc) (e ▸ hΓ.in))
  cases fin with
  | done f => exact h'
  | again c' => exact ⟨h'.1, h'.2 (Γ.goto c') p' rfl h1 (hΓ.goto c')⟩
theorem exported_X {a : Addr} {Q : Bool → Shared → Prop} (h : Q false s) : wpX M A (Builtin.Bytes.exported (.ref a)) Q E s := by
  intro Γ p h1 h2 _
  unfold Builtin.Bytes.exported
  show Q (((Γ.code, p) :: Γ.below).any _) s
  rw [show (((Γ.code, p) :: Γ.below).any _) = false from ?_]
  · exact h
  · rw [List.any_eq_false]
    intro x hx
    have hh : holds x.1 = false := CleanL.cons h2 h1 x hx
    obtain ⟨c, q⟩ := x
    rw [Bool.not_eq_true]
    cases c with
    | builtin id args =>
      have hb : badIds.contains id = false := hh
      have hb2 : Builtin.Bytes.decodersThatHold.contains id = false := by
        cases e : Builtin.Bytes.decodersThatHold.contains id with
        | false => rfl
        | true =>
          exfalso
          have h3 : id ∈ badIds := List.mem_append_left _ (List.contains_iff_mem.mp e)
          rw [List.contains_iff_mem.mpr h3] at hb
          cases hb
      have hne : ∀ x ∈ (["bytearray.__contains__", "bytearray.__mod__", "bytearray.__rmod__", "_struct.pack_into.held", "bytearray.find.held"] : List String), id ≠ x := by
        intro x hx e
        subst e
        have h3 : id ∈ badIds := List.mem_append_right _ hx
        rw [List.contains_iff_mem.mpr h3] at hb
        cases hb
      have h1 := hne "bytearray.__contains__" (by decide)
      have h2 := hne "bytearray.__mod__" (by decide)
      have h3 := hne "bytearray.__rmod__" (by decide)
      have h4 := hne "_struct.pack_into.held" (by decide)
      have h5 := hne "bytearray.find.held" (by decide)
      clear hne hb hh hx
      obtain ⟨l, kw⟩ := args
      show Builtin.Bytes.exported.match_1 (fun _ => Bool) _ _ _ _ _ _ _ _ = false
      unfold Builtin.Bytes.exported.match_1
      dsimp only
      unfold Builtin.Bytes.exported._sparseCasesOn_1
      dsimp only
      rw [dif_neg h1, dif_neg h2, dif_neg h3, dif_neg h4, dif_neg h5]
      cases l with
      | nil => rfl
      | cons v l => exact (congrArg (fun z => Builtin.Bytes.sameRef v (.ref a) && z) hb2).trans (Bool.and_false _)
    | _ => rfl
end
end Mine
end
section
open PySem PySem.W PyProof.Rows PySem.Calls
open PySem.Sem (wp)
set_option maxRecDepth 100000
namespace Mine
namespace FB
theorem mro : mroOf (.type "bytearray") = pure [.type "bytearray", .type "object"] := by rw [mroOf_type]; kernel_rfl
theorem lk_new : typeLookup (.type "bytearray") "__new__" = pure (some (.builtin "bytearray.__new__")) := by rw [typeLookup_type, builtinLookup_eq_fast]; kernel_rfl
theorem lk_init : Slot "bytearray" "__init__" "bytearray.__init__" :=
  .of (owner := "bytearray") (n := "__init__") (by rw [typeLookup_type, builtinLookup_eq_fast]; kernel_rfl) (by decide +kernel) (by decide +kernel) (by decide +kernel)
    (by first | exact .inl (by decide +kernel) | exact .inr (by decide +kernel)) (by rw [isSubtype_type]; kernel_rfl)
theorem called : TypeCalled "bytearray" "bytearray.__new__" "bytearray.__init__" :=
  ⟨by decide +kernel, by decide +kernel, ⟨_, _, mro⟩, madeBy_type mro lk_new (by decide +kernel), by decide +kernel, by rw [isSubtype_type]; kernel_rfl, lk_init⟩
theorem typeCall (a : Value) : checkTypeCall "bytearray" ⟨[a], []⟩ = pure () := by kernel_rfl
theorem newCall (a : Value) : checkBuiltinCall "bytearray.__new__" ⟨[.type "bytearray", a], []⟩ = pure () := by kernel_rfl
theorem entry_new : entryFor table "bytearray.__new__" = some Builtin.«list.__new__» :=
  entryFor_alias (id' := "list.__new__") (by kernel_rfl) (by first | rfl | decide +kernel) (by decide +kernel) (by kernel_rfl)
theorem plain_new : plainId "bytearray.__new__" = true := by decide +kernel
theorem entry_init : entryFor table "bytearray.__init__" = some Builtin.«bytearray.__init__» := entryFor_of_tree (by kernel_rfl)
theorem sub_self : isSubtype (.type "bytearray") (.type "bytearray") = pure true := by rw [isSubtype_type]; kernel_rfl
theorem args_init (a b : Value) : argsOk "bytearray.__init__" ⟨[a, b], []⟩ := by unfold argsOk; kernel_rfl
theorem bind_init (v : Value) : Builtin.Bytes.bindOptional "bytearray.__init__" "bytearray" ["source", "encoding", "errors"] [v] [] = pure [some v, none, none] := by kernel_rfl
theorem lk_release : typeLookup (.type "bytearray") "__release_buffer__" = pure (some (.builtin "bytearray.__release_buffer__")) := by rw [typeLookup_type, builtinLookup_eq_fast]; kernel_rfl
theorem lk_index : typeLookup (.type "int") "__index__" = pure (some (.builtin "int.__index__")) := by rw [typeLookup_type, builtinLookup_eq_fast]; kernel_rfl
end FB
set_option maxRecDepth 1000000 in
set_option maxHeartbeats 4000000 in
theorem owner_ba_new : ("bytearray.__new__".splitOn ".__new__").headD "" = "bytearray" := by simp +decide [String.splitOn, String.splitOnAux]
abbrev baObj (b : Array UInt8) : Obj := { cls := .type "bytearray", data := .bytearray b }
section
variable {prog : Program} {w : World} {A : Around} {E : Value → Shared → Prop} {s : Shared}
theorem codeX_builtin {id : String} {args : Args} {b : Builtin} {R : Result → Shared → Prop} (hb : entryFor table id = some b) (hf : holds (.builtin id args) = false)
    (h : wpX (model prog w) (A.under (.builtin id args)) (b args) (fun fin s' => match fin with | .done f => R (.ok f) s' | .again c' => c'.quiet = true ∧ codeX (model prog w) A c' R s') (fun e s' => R (.error e) s') s) :
    codeX (model prog w) A (.builtin id args) R s := by
  refine codeX_of_tree hf ?_
  have hden : (model prog w).den (.builtin id args) = b args := by
    show (match entryFor table id with | some b => b args | none => unsupported ((withoutEnding? id "#data").getD id)) = _
    rw [hb]
  rw [hden]
  exact h
theorem ba_new (a : Value) {Q₁ : Value → Shared → Prop}
    (h : Q₁ (.ref s.heap.objs.size) { s with heap := s.heap.push (baObj #[]) }) :
    codeAny (model prog w) A (.call (.builtin "bytearray.__new__") ⟨[.type "bytearray", a], []⟩) (wants Q₁ E) s := by
  refine codeAny_of_tree ?_
  show wpAny _ A.in1 (do checkBuiltinCall "bytearray.__new__" ⟨[.type "bytearray", a], []⟩; again (.builtin "bytearray.__new__" ⟨[.type "bytearray", a], []⟩)) _ _ s
  refine wpAny_bind (wpAny_of_eq (FB.newCall a) (wpAny_pure ⟨plainId_quiet FB.plain_new _, codeAny_builtin_stack FB.entry_new rfl fun p st => ?_⟩))
  rw [Around.under_plainId FB.plain_new _]
  have hsub := FB.sub_self
  have hown := owner_ba_new
  obtain ⟨hp, g, d, tk, os⟩ := s
  simp only [hown]
  wp_walk
  exact h
end
end Mine
end
section
open PySem PySem.W PyProof.Rows PySem.Calls
open PySem.Sem (wp)
set_option maxRecDepth 100000
namespace Mine
section
variable {prog : Program} {w : World} {A : Around} {E : Value → Shared → Prop} {s : Shared}
theorem write_ba {a : Addr} {b : Array UInt8} {f : Array UInt8 → Array UInt8} {Q : Unit → Shared → Prop} {M : Model} (h0 : s.heap.get? a = some (baObj b)) (hz : (f b).size ≤ sizeLine)
    (h : Q () { s with heap := s.heap.update a (Obj.mapBytearray f) }) : wpAny M A (Builtin.Bytes.write (.ref a) f) Q E s := by
  show wpAny _ _ (updateBytearray a f) _ _ _
  unfold updateBytearray
  refine wpAny_bind (wpAny_load h0 ?_)
  show wpAny _ _ (update a (Obj.mapBytearray f) >>= fun _ => lookBehind a) _ _ _
  refine wpAny_bind (wpAny_update h0 ?_)
  refine wpAny_lookBehind (o := baObj (f b)) (Heap.get?_update_self (Obj.mapBytearray f) h0 rfl) ?_ h
  show (if (f b).size > sizeLine then some "bytearray:memory" else none) = none
  rw [if_neg (Nat.not_lt.mpr hz)]
theorem wpX_if_false {α : Type} {M : Model} {c : Bool} {a b : Sem α} {Q : α → Shared → Prop} (hc : c = false) (h : wpX M A b Q E s) : wpX M A (if c = true then a else b) Q E s := by
  subst hc
  exact h
theorem ba_init {a : Addr} {n : Int} {t : Tok} (hh : A.handled = none) (h0 : 0 < n) (h1 : n < 1000000) (ho : s.heap.get? a = some (baObj #[])) {Q : PySem.Fin → Shared → Prop}
    (h : ∀ h' tk, Heap.SameBut a s.heap h' → h'.get? a = some (baObj (Array.replicate n.toNat 0)) → Q (.done (.ret .none)) { s with heap := h', toks := tk }) :
    wpX (model prog w) A (Builtin.«bytearray.__init__» ⟨[.ref a, .int n t], []⟩) Q E s := by
  have hT : s.TypeIs (.ref a) "bytearray" := ⟨_, ho, rfl⟩
  have rel : ∀ {Q : Bool → Shared → Prop} {E' : Value → Shared → Prop} {A' : Around}, Q false s → wpAny (model prog w) A' (Builtin.Bytes.ownRelease (.ref a)) Q E' s := by
    intro Q E' A' hq
    unfold Builtin.Bytes.ownRelease Builtin.Bytes.slotIsOwn
    refine wpAny_bind (wpAny_bind (wpAny_specialOf hT FB.lk_release ?_))
    dsimp only
    rw [show ("bytearray.__release_buffer__".endsWith ("." ++ "__release_buffer__")) = true from by decide +kernel]
    refine wpAny_isInstance hT (b := true) (by rw [show ("bytearray.__release_buffer__".dropRight ("__release_buffer__".length + 1)) = "bytearray" from by decide +kernel]; exact FB.sub_self) ?_
    exact wpAny_pure hq
  unfold Builtin.«bytearray.__init__»
  refine wpX_bindA (m := Builtin.Bytes.ownRelease (.ref a)) (rel ?_)
  refine wpX_if_false rfl ?_
  refine wpX_bindA (wpAny_of_eq (FB.bind_init _) ?_)
  refine wpX_bindA (wpAny_of_eq (a := ()) rfl ?_)
  refine wpX_bindA (wpAny_of_eq (a := ()) rfl ?_)
  refine wpX_bind (wpX_bind (exported_X ?_))
  dsimp only
  refine wpX_of_any ?_
  unfold Builtin.Bytes.exportsOf
  refine wpAny_bind (wpAny_bind (wpAny_load ho (wpAny_pure (wpAny_pure ?_))))
  refine wpX_if_false (by decide) ?_
  refine wpX_of_any ?_
  refine wpAny_bind (write_ba (b := #[]) (f := fun _ => #[]) ho (Nat.zero_le _) ?_)
  have ho2 : (s.heap.update a (Obj.mapBytearray fun _ => #[])).get? a = some (baObj #[]) := Heap.get?_update_self (Obj.mapBytearray fun _ => #[]) ho rfl
  refine wpAny_bind (wpAny_of_eq (a := none) rfl ?_)
  refine bm_if_false rfl ?_
  refine wpAny_bind (wpAny_of_eq (a := ()) rfl ?_)
  refine wpAny_bind (wpAny_specialOf (T := "int") rfl FB.lk_index ?_)
  refine bm_if_true rfl ?_
  refine wpAny_bind (wpAny_attempt (wpAny_of_eq (a := n) rfl ?_))
  dsimp only
  refine bm_if_false (by unfold Builtin.Bytes.fitsIndex; simp only [Bool.not_eq_false', decide_eq_true_eq, Bool.and_eq_true]; omega) ?_
  rw [if_neg (by omega)]
  refine bm_if_false (by simp only [beq_eq_false_iff_ne, ne_eq]; omega) ?_
  refine bm_if_false (by simp [Builtin.Bytes.tooLong, sizeLine]; omega) ?_
  refine wpAny_bind (wpAny_rule ?_)
  rw [if_pos (by omega)]
  refine wpAny_bind (write_ba (b := #[]) (f := fun _ => Array.replicate n.toNat 0) ho2 (by simp [sizeLine]; omega) ?_)
  refine wpAny_pure (h _ _ ((Heap.SameBut.update ..).trans (Heap.SameBut.update ..)) ?_)
  exact Heap.get?_update_self (Obj.mapBytearray fun _ => Array.replicate n.toNat 0) ho2 rfl
end
end Mine
namespace Mine
section
variable {prog : Program} {w : World} {A : Around} {E : Value → Shared → Prop} {s : Shared}
theorem ba_call {n : Int} {t : Tok} {Q : Value → Shared → Prop} (hh : A.handled = none) (h0 : 0 < n) (h1 : n < 1000000)
    (h : ∀ a h' tk, s.heap.objs.size ≤ a → (∀ b o, s.heap.get? b = some o → h'.get? b = some o) → h'.get? a = some (baObj (Array.replicate n.toNat 0)) → Q (.ref a) { s with heap := h', toks := tk }) :
    wpX (model prog w) A (call (.type "bytearray") [.int n t]) Q E s := by
  have ft := FB.called
  obtain ⟨c, tl, hmro⟩ := ft.mro
  have hmade := ft.made
  have hsub := ft.sub
  have hct := FB.typeCall (.int n t)
  refine wpX_call (codeX_of_tree rfl ?_)
  show wpX _ _ (callAny (.type "bytearray") _) _ _ _
  refine wpX_of_any (wpAny_pure ⟨Code.quiet_builtin _ (by decide +kernel), codeX_builtin F.entry_type_call (show badIds.contains "type.__call__" = false from by decide +kernel) ?_⟩)
  rw [Around.under_plain (weight_type_call_type "bytearray" [.int n t] []) rfl]
  have h2 := ft.notType
  have h3 := ft.canCreate
  unfold Builtin.«type.__call__»
  dsimp only
  refine wpX_if_false h2 ?_
  refine wpX_if_false h3 ?_
  refine wpX_bindA (wpAny_of_eq hct ?_)
  refine wpX_bindA (wpAny_of_eq hmro ?_)
  refine wpX_if_false rfl ?_
  refine wpX_bindA (wpAny_of_eq hmade ?_)
  dsimp only
  refine wpX_bindA (wpAny_pure ?_)
  refine wpX_bind (wpX_holding (wpX_call (codeX_mono (codeX_of_any (ba_new (Q₁ := fun obj s₁ => obj = .ref s.heap.objs.size ∧ s₁ = { s with heap := s.heap.push (baObj #[]) }) (E := fun e s' => E e s') (.int n t) ⟨rfl, rfl⟩)) fun r s' hr => ?_)))
  rcases r with e | (v | _ | _ | obj) <;> first | exact hr | exact hr.elim | skip
  obtain ⟨rfl, rfl⟩ := hr
  have ho : ({ s with heap := s.heap.push (baObj #[]) } : Shared).heap.get? s.heap.objs.size = some (baObj #[]) := Heap.get?_push_size _ rfl
  have hT : ({ s with heap := s.heap.push (baObj #[]) } : Shared).TypeIs (.ref s.heap.objs.size) "bytearray" := ⟨_, ho, rfl⟩
  refine wpX_bindA (wpAny_isInstance hT hsub ?_)
  refine wpX_if_false rfl ?_
  refine wpX_bind (wpX_holding ?_)
  unfold callSpecial?
  refine wpX_bindA (wpAny_specialOf hT ft.init.lookup ?_)
  refine wpX_holding ?_
  refine wpX_bindA (wpAny_of_eq (ft.init.bind _) ?_)
  dsimp only
  refine wpX_bind (wpX_call (codeX_of_tree rfl ?_))
  show wpX _ A.in1.in1 (do checkBuiltinCall "bytearray.__init__" ⟨[.ref s.heap.objs.size, .int n t], []⟩; again (.builtin "bytearray.__init__" ⟨[.ref s.heap.objs.size, .int n t], []⟩)) _ _ _
  refine wpX_bindA (ft.init.check _ _ _ _ _ _ _ _ hT (FB.args_init _ _) ?_)
  refine wpX_pure ⟨plainId_quiet ft.init.plain _, codeX_builtin FB.entry_init (show badIds.contains "bytearray.__init__" = false from by decide +kernel) ?_⟩
  rw [Around.under_plainId ft.init.plain _]
  refine ba_init (by exact hh) h0 h1 ho fun h' tk hsb hh' => ?_
  refine wpX_pure ?_
  dsimp only
  refine wpX_if_false rfl ?_
  refine wpX_pure ?_
  refine h _ h' tk (Nat.le_refl _) (fun b o e => ?_) hh'
  exact hsb.extBut b o (Nat.ne_of_lt (Heap.lt_size e)) (Heap.get?_push_of_some _ e)
end
end Mine
end
section
open PySem PySem.W PyProof.Rows PySem.Calls
open PySem.Sem (wp)
set_option maxRecDepth 100000
namespace Mine
namespace FB
theorem slot_setitem : Slot "bytearray" "__setitem__" "bytearray.__setitem__" :=
  .of (owner := "bytearray") (n := "__setitem__") (by rw [typeLookup_type, builtinLookup_eq_fast]; kernel_rfl) (by decide +kernel) (by decide +kernel) (by decide +kernel)
    (by first | exact .inl (by decide +kernel) | exact .inr (by decide +kernel)) (by rw [isSubtype_type]; kernel_rfl)
theorem entry_setitem : entryFor table "bytearray.__setitem__" = some Builtin.«bytearray.__setitem__» := entryFor_of_tree (by kernel_rfl)
theorem args_setitem (a b c : Value) : argsOk "bytearray.__setitem__" ⟨[a, b, c], []⟩ := by unfold argsOk; kernel_rfl
theorem no_bytes : typeLookup (.type "bytearray") "__bytes__" = pure none := by rw [typeLookup_type, builtinLookup_eq_fast]; kernel_rfl
theorem lk_noindex : typeLookup (.type "bytearray") "__index__" = pure none := by rw [typeLookup_type, builtinLookup_eq_fast]; kernel_rfl
theorem lk_buffer : typeLookup (.type "bytearray") "__buffer__" = pure (some (.builtin "bytearray.__buffer__")) := by rw [typeLookup_type, builtinLookup_eq_fast]; kernel_rfl
end FB
section
variable {prog : Program} {w : World} {A : Around} {E : Value → Shared → Prop} {s : Shared}
theorem rel_ba {v : Value} {M : Model} {Q : Bool → Shared → Prop} (hT : s.TypeIs v "bytearray") (hq : Q false s) : wpAny M A (Builtin.Bytes.ownRelease v) Q E s := by
  unfold Builtin.Bytes.ownRelease Builtin.Bytes.slotIsOwn
  refine wpAny_bind (wpAny_bind (wpAny_specialOf hT FB.lk_release ?_))
  dsimp only
  rw [show ("bytearray.__release_buffer__".endsWith ("." ++ "__release_buffer__")) = true from by decide +kernel]
  refine wpAny_isInstance hT (b := true) (by rw [show ("bytearray.__release_buffer__".dropRight ("__release_buffer__".length + 1)) = "bytearray" from by decide +kernel]; exact FB.sub_self) ?_
  exact wpAny_pure hq
theorem ba_setAt {a : Addr} {b : Array UInt8} {k x : Int} {t u : Tok} {Q : Unit → Shared → Prop} (ho : s.heap.get? a = some (baObj b)) (h0 : 0 ≤ k) (hn : k < b.size) (hz : b.size ≤ 1000000) (hx : 0 ≤ x ∧ x < 256)
    (hQ : Q () { s with heap := s.heap.update a (Obj.mapBytearray (·.setIfInBounds k.toNat x.toNat.toUInt8)) }) : wpAny (model prog w) A (setItem (.ref a) (.int k t) (.int x u)) Q E s := by
  have hT : s.TypeIs (.ref a) "bytearray" := ⟨_, ho, rfl⟩
  unfold setItem
  try with_reducible refine wpAny_holding ?_
  first | refine wpAny_bind (wpAny_pure ?_) | skip
  refine wpAny_bind (wpAny_sequenceKey hT (by decide) ?_)
  refine wpAny_bind (wpAny_callSpecial?_slot (name := Str.ofString "__setitem__") hT FB.slot_setitem
    (wpAny_call_entry FB.slot_setitem hT FB.entry_setitem ?_ (FB.args_setitem _ _ _)))
  unfold Builtin.«bytearray.__setitem__»
  refine bm_if_false rfl ?_
  dsimp only
  unfold Builtin.Bytes.subscript?
  refine wpAny_bind (wpAny_bind (wpAny_specialOf (T := "int") rfl FB.lk_index ?_))
  refine bm_if_false rfl ?_
  refine wpAny_bind (wpAny_of_eq (a := k) rfl ?_)
  refine bm_if_false (by unfold Builtin.Bytes.fitsIndex; simp only [Bool.not_eq_false', decide_eq_true_eq, Bool.and_eq_true]; omega) ?_
  refine wpAny_pure ?_
  dsimp only
  unfold Builtin.Bytes.byteValue
  refine wpAny_bind (wpAny_bind (wpAny_of_eq (a := x) rfl ?_))
  refine bm_if_false (by simp only [Bool.or_eq_false_iff, decide_eq_false_iff_not]; omega) ?_
  refine wpAny_pure ?_
  unfold Builtin.Bytes.payload Builtin.Bytes.payload?
  refine wpAny_bind (wpAny_bind (wpAny_bind (wpAny_load ho (wpAny_pure (wpAny_pure ?_)))))
  have hi : seqIndex? k b.size = some k.toNat := by
    unfold seqIndex?
    have e1 : (if k < 0 then k + (b.size : Int) else k) = k := if_neg (by omega)
    simp only [e1]
    rw [if_pos (by simp only [Bool.and_eq_true, decide_eq_true_eq]; omega)]
  rw [hi]
  dsimp only
  refine wpAny_bind (write_ba ho (by rw [Array.size_setIfInBounds]; simp [sizeLine]; omega) ?_)
  first
    | exact wpAny_bind (wpAny_pure (wpAny_pure ⟨.none, rfl, wpAny_pure hQ⟩))
    | exact wpAny_pure ⟨.none, rfl, wpAny_pure hQ⟩
theorem ba_bytes {a : Addr} {b : Array UInt8} {Q : Value → Shared → Prop} (ho : s.heap.get? a = some (baObj b)) (hz : b.size ≤ 1000000) (hh : A.handled = none)
    (hQ : ∀ t k, Q (.bytes b t) { s with toks := k }) : wpAny (model prog w) A (call (.type "bytes") [.ref a]) Q E s := by
  have hT : s.TypeIs (.ref a) "bytearray" := ⟨_, ho, rfl⟩
  refine callType_codes (Q₁ := fun obj s₁ => s₁.TypeIs obj "bytes" ∧ Q obj s₁) F.bm_called (F.bm_typeCall _) F.entry_object_init
    ?_ fun obj s₁ h₁ => ?_
  · refine codeAny_of_tree ?_
    show wpAny _ A.in1.in1 (do checkBuiltinCall "bytes.__new__" ⟨[.type "bytes", .ref a], []⟩; again (.builtin "bytes.__new__" ⟨[.type "bytes", .ref a], []⟩)) _ _ s
    refine wpAny_bind (wpAny_of_eq (F.bm_newCall _) (wpAny_pure ⟨plainId_quiet F.bm_plain _, codeAny_builtin F.bm_entry ?_⟩))
    rw [Around.under_plainId F.bm_plain _]
    unfold Builtin.«bytes.__new__»
    refine wpAny_bind (wpAny_of_eq (a := true) rfl ?_)
    refine bm_if_false rfl ?_
    refine wpAny_bind (wpAny_of_eq F.bm_sub ?_)
    refine bm_if_false rfl ?_
    refine wpAny_bind (wpAny_of_eq (F.bm_bind _) ?_)
    refine wpAny_bind (wpAny_of_eq (a := ()) rfl ?_)
    refine wpAny_bind (wpAny_of_eq (a := ()) rfl ?_)
    refine bm_if_false rfl ?_
    refine wpAny_bind (wpAny_specialOf hT FB.no_bytes ?_)
    refine wpAny_bind (wpAny_bind ?_)
    show wpAny _ _ (load a >>= _) _ _ _
    refine wpAny_bind (wpAny_load ho ?_)
    refine wpAny_pure (wpAny_pure ?_)
    refine bm_if_false rfl ?_
    refine wpAny_bind (wpAny_specialOf hT FB.lk_noindex ?_)
    refine bm_if_true rfl ?_
    first
      | show wpAny _ _ (Builtin.Bytes.buffer? "bytes.__new__" (.ref a) true >>= _) _ _ _
      | (refine wpAny_bind ?_; show wpAny _ _ (Builtin.Bytes.buffer? "bytes.__new__" (.ref a) true >>= _) _ _ _)
    refine wpAny_bind ?_
    unfold Builtin.Bytes.buffer?
    refine wpAny_bind (wpAny_specialOf hT FB.lk_buffer ?_)
    dsimp only
    unfold Builtin.Bytes.slotIsOwn
    refine wpAny_bind (wpAny_bind (wpAny_specialOf hT FB.lk_buffer ?_))
    dsimp only
    rw [show ("bytearray.__buffer__".endsWith ("." ++ "__buffer__")) = true from by decide +kernel]
    refine wpAny_isInstance hT (b := true) (by rw [show ("bytearray.__buffer__".dropRight ("__buffer__".length + 1)) = "bytearray" from by decide +kernel]; exact FB.sub_self) ?_
    refine bm_if_false rfl ?_
    refine wpAny_bind (wpAny_specialOf hT FB.lk_buffer ?_)
    show wpAny _ _ (Builtin.Bytes.ownRelease (.ref a) >>= _) _ _ _
    refine wpAny_bind (rel_ba hT ?_)
    refine bm_if_false rfl ?_
    unfold Builtin.Bytes.payload Builtin.Bytes.payload?
    refine wpAny_bind (wpAny_bind (wpAny_bind (wpAny_load ho (wpAny_pure (wpAny_pure (wpAny_pure ?_))))))
    dsimp only
    refine wpAny_bind (wpAny_rule ?_)
    refine wpAny_bind (wpAny_mkBytes ?_ (by simp [sizeLine]; omega))
    show wpAny _ _ (if (Value.type "bytes" == Value.type "bytes") = true then _ else _) _ _ _
    refine bm_if_true (by decide) ?_
    first
      | exact wpAny_pure ⟨typeIs_bytes _ _ _, hQ _ _⟩
      | exact wpAny_bind (wpAny_pure (wpAny_pure ⟨typeIs_bytes _ _ _, hQ _ _⟩))
  · exact ⟨h₁.1, F.args_object_init_2 obj _, object_init_meets F.bm_called.init.lookup F.bm_called.made (by decide) prog w A.in1 _ s₁ ⟨h₁.1, rfl, h₁.2⟩⟩
end
end Mine
end
section
open PySem PySem.W PyProof.Rows PySem.Calls
open PySem.Sem (wp)
set_option maxRecDepth 100000
namespace Mine
section
variable {α : Type} {M : Model} {A : Around} {E : Value → Shared → Prop} {s : Shared} {env : Env}
theorem wpX_keep {vs : List Value} {m : Sem α} {Q : α → Shared → Prop} (h : wpX M A m Q E s) : wpX M A (m.keep vs) Q E s :=
  fun Γ p h1 h2 hΓ => by rw [Sem.wp_keep]; exact h Γ p h1 h2 hΓ
theorem wpX_execs_cons {st : Stmt} {rest : List Stmt} {Q : Flow → Shared → Prop}
    (h : wpX M A (exec st env) (fun f s' => match f with | .next => wpX M A (execs rest env) Q E s' | f => Q f s') E s) : wpX M A (execs (st :: rest) env) Q E s := fun Γ p h1 h2 hΓ => by
  rw [execs_cons, Sem.wp_bind']
  refine Sem.wp_mono M Γ _ (fun f p' s' h' => ?_) (fun _ _ _ h' => h') _ _ (h Γ p h1 h2 hΓ)
  cases f <;> first | exact h' Γ p' h1 h2 hΓ | exact h'
theorem wpX_Assign_Name {x : Str} {pos' pos : Pos} {value : Expr} {Q : Flow → Shared → Prop}
    (h : wpX M A (eval value env) (fun v s₁ => wpAny M A (storeName env x v) (fun _ => Q .next) E s₁) E s)
    (hs : swapsWith value (some (.Name x pos')) pos.line env = pure false := by rfl) :
    wpX M A (exec (.Assign [.Name x pos'] value pos) env) Q E s := fun Γ p h1 h2 hΓ => by
  simp only [exec_Assign_Name env x pos' value pos hs, Sem.wp_bind', Sem.wp_cmd_standAt, Sem.wp_bindName, Sem.wp_pure']
  exact Sem.wp_mono M Γ _ (fun v _ s₁ h₁ => h₁ Γ _ hΓ) (fun _ _ _ h' => h') _ _ (h Γ _ h1 h2 hΓ)
theorem wpX_Call {func : Expr} {args : List Expr} {pos : Pos} {Q : Value → Shared → Prop}
    (h : wpAny M A (eval func env) (fun f s₁ => wpX M A (callWith pos f [] (backTo pos (starEach args env)) []) Q E s₁) E s)
    (he : eval (.Call func args [] pos) env = (do callWith pos (← eval func env) [] (backTo pos (starEach args env)) (backToKw pos (keywordEach [] env))) := by rfl) :
    wpX M A (eval (.Call func args [] pos) env) Q E s := by
  rw [he]; exact wpX_bindA h
theorem callWithX_of {P : Heap → Prop} {pos : Pos} {f : Value} {first : List Value} {args : List (Bool × Sem Value)} {keywords : List (Option Str × Sem Value)} {Q : Value → Shared → Prop} (hplain : (args.any (·.1) || keywords.any (·.1.isNone)) = false)
    (hk : ∀ h, P h → ∃ k, (k = Keeper.frame ∨ k = Keeper.machine ∨ k = Keeper.boundFrame) ∧ Looks M h (keeperOf f) k)
    (h : wpAny M A (evalArgs f true args keywords) (fun a s₁ => P s₁.heap ∧ wpX M A (call f (first ++ a.pos) a.kw) Q E s₁) E s) : wpX M A (callWith pos f first args keywords) Q E s := by
  unfold callWith
  refine wpX_bindA (wpAny_holding (wpAny_mono h (fun a s₁ h₁ => wpX_bindA (wpAny_standAt ?_)) fun _ _ x => x))
  obtain ⟨k, hk', L⟩ := hk _ h₁.1
  simp only [hplain]
  refine wpX_bindA (L.here ?_)
  have tail : ∀ {t : Sem Value}, wpX M A t Q E s₁ → wpX M A (t >>= fun r => holding [r] point >>= fun _ => pure r) Q E s₁ :=
    fun ht => wpX_bind (wpX_mono ht (fun r s₂ hr => wpX_of_any (wpAny_bind (wpAny_holding (wpAny_point (wpAny_pure hr))))) fun _ _ x => x)
  have marked (mk : Value) : wpX M A (callMarked mk f (first ++ a.pos) a.kw) Q E s₁ := by unfold callMarked; exact wpX_keep h₁.2
  rcases hk' with rfl | rfl | rfl <;> dsimp only <;> first | exact tail h₁.2 | (split <;> first | exact tail h₁.2 | exact tail (marked _))
theorem callWithX_K {K : Frag} {pos : Pos} {f : Value} {first : List Value} {e : Expr} {rest : List Expr} {Q : Value → Shared → Prop} (hk : keepIn K f = true)
    (h : wpAny M A (spliced (backTo pos (starEach (e :: rest) env))) (fun vs s₁ => K.In s₁.heap ∧ wpX M A (call f (first ++ vs)) Q E s₁) E s)
    (he : starEach (e :: rest) env = (false, eval e env) :: starEach rest env := by rfl) (hplain : (backTo pos (starEach rest env)).any (·.1) = false := by rfl) :
    wpX M A (callWith pos f first (backTo pos (starEach (e :: rest) env)) []) Q E s := by
  rw [he] at h ⊢
  exact callWithX_of (by show ((false || (backTo pos (starEach rest env)).any (·.1)) || false) = false; rw [hplain]; rfl) (keeps_K hk) (evalArgs_plain h)
theorem callWithX_type1 {pos : Pos} {T : String} {e : Expr} {rest : List Expr} {Q : Value → Shared → Prop}
    (h : wpAny M A (spliced (backTo pos (starEach (e :: rest) env))) (fun vs s₁ => wpX M A (call (.type T) vs) Q E s₁) E s)
    (he : starEach (e :: rest) env = (false, eval e env) :: starEach rest env := by rfl)
    (hplain : (backTo pos (starEach rest env)).any (·.1) = false := by rfl) :
    wpX M A (callWith pos (.type T) [] (backTo pos (starEach (e :: rest) env)) []) Q E s := by
  rw [he] at h ⊢
  refine callWithX_of (P := fun _ => True) (by show ((false || (backTo pos (starEach rest env)).any (·.1)) || false) = false; rw [hplain]; rfl)
    (fun h _ => ⟨.machine, .inr (.inl rfl), Looks.of_pure rfl⟩) (evalArgs_plain (wpAny_mono h (fun vs s₁ h₁ => ⟨trivial, h₁⟩) fun _ _ x => x))
end
section
variable {prog : Program} {w : World} {A : Around} {s : Shared} {R : Result → Shared → Prop}
theorem codeX_func {body : List Stmt} {env : Env}
    (h : wpX (model prog w) (A.deeper env) (execs body env) (fun f s' => R (.ok (.ret (match f with | .ret v => v | _ => .none))) s')
      (fun e s' => wpAny (model prog w) (A.deeper env) (leaving env e) (fun _ s'' => R (.error e) s'') (fun e' s'' => R (.error e') s'') s') s) :
    codeX (model prog w) A (.func body env) R s := by
  refine codeX_of_tree rfl ?_
  show wpX _ (A.deeper env) (do point; match ← (execs body env).onRaise (leaving env) with | .ret v => ret v | _ => ret .none) _ _ s
  refine wpX_bindA (wpAny_point (wpX_bind (wpX_onRaise (wpX_mono h (fun f s' h' => ?_) fun _ _ h' => h'))))
  cases f <;> exact wpX_pure h'
theorem codeX_call_function {a : Addr} {args : Args} {o : Obj} {fd : FuncData} {body : List Stmt} (hroom : A.depth < recursionLimit)
    (ho : s.heap.get? a = some o)
    (hd' : o.data = .func fd) (hco : fd.scope.isCoroutine = false) (hgen : fd.scope.isGenerator = false) (hbody : fd.body = .stmts body) (hcd : s.heap.CodeRec fd.code fd.qualname)
    (h : wpAny (model prog w) A.in1 (bindArgs fd args) (fun binds s₁ =>
      wpAny (model prog w) A.in1 (newFunctionEnv fd.scope fd.globals fd.closure binds (fd.qualname ++ ".<locals>.") (some a) fd.code none fd.builtins)
        (fun env s₂ => s₂.heap.NoLimit ∧ codeX (model prog w) A (.func body env) R s₂) (fun e s' => R (.error e) s') s₁) (fun e s' => R (.error e) s') s) :
    codeX (model prog w) A (.call (.ref a) args) R s := by
  refine codeX_of_tree rfl ?_
  show wpX _ A.in1 (callAny (.ref a) args) _ _ s
  simp only [callAny]
  refine wpX_bindA (wpAny_load ho ?_)
  refine Classical.byContradiction fun hG' => ?_
  obtain ⟨c, oc, vs, tq, hc, hoc, hdc, hq⟩ := hcd
  refine hG' ?_
  clear hG'
  simp only [hd', callFunction, hco, hgen, hbody, hc]
  rw [hc] at h
  refine wpX_of_any ?_
  refine wpAny_bind (m := field (.ref c) 1) (wpAny_field hoc hdc hq (wpAny_bind (wpAny_pure ?_)))
  exact wpAny_bind (wpAny_mono h (fun binds s₁ h₁ => wpAny_bind (wpAny_mono h₁ (fun env s₂ h₂ => wpAny_bind (wpAny_enterFrame h₂.1 hroom
    (wpAny_pure (And.intro rfl h₂.2)))) fun _ _ h' => h')) fun _ _ h' => h')
end
section
variable {prog : Program} {w : World} {A₀ A : Around} {s : Shared} {base h₀ : Heap} {outer : List Env} {L : Addr} {m : Str → Option Value} {env : Env} {news : Led} {mg mb : Str → Option Value} {p : Program} {loose : List Str} {mean : ExcName → Option Value}
  {R : Result → Shared → Prop} {name qual : Str} {params : Arguments} {body : List Stmt} {scope : Scope} {dV kV doc pm cdv ct oc : Value} {an od : Option Addr} {osl : Array (Option Value)} {f : Addr} {args : Args} {binds : List (Str × Value)} {K : Frag}
theorem code_defX
    (B : Below A₀ base outer h₀) (F : Fr h₀ L s.heap m) (X₀ : K.In h₀) (N : News h₀ L s.heap news) (T : Top p loose mean mg mb h₀) (hA : A.frames = some (env :: outer)) (hf : env.frame = some L) (hke : env.scope.kind = .function)
    (ho : K.lookup f = some ⟨oc, od, .func (fnOf name qual params body scope dV kV doc pm an cdv ct), osl⟩) (hcd : codeIn K cdv qual = true) (hroom : A.depth < recursionLimit)
    (hbind : BindsTo s (fnOf name qual params body scope dV kV doc pm an cdv ct) args binds) (hloc : ∀ y ∈ binds, scope.names.lookup y.1 = some .local)
    (h : ∀ g L' h₁, Fr h₀ L g m → Fr g L' h₁ (fun y => binds.reverse.lookup y) → News g L' h₁ news → Below A base (env :: outer) g → K.In g → Top p loose mean mg mb g →
      wpX (model prog w) (A.deeper (envOf qual scope L' f cdv)) (execs body (envOf qual scope L' f cdv))
        (fun fl s' => LeaveK h₀ L m g R (match fl with | .ret v => v | _ => .none) s')
        (fun e s' => wpAny (model prog w) (A.deeper (envOf qual scope L' f cdv)) (leaving (envOf qual scope L' f cdv) e) (fun _ s'' => R (.error e) s'') (fun e' s'' => R (.error e') s'') s')
        { s with heap := h₁, toks := s.toks + binds.length })
    (hco : scope.isCoroutine = false) (hgen : scope.isGenerator = false) (hk : scope.kind = .function)
    (hcell : ∀ x ∈ scope.names, x.2 ≠ .cell) : codeX (model prog w) A (.call (.ref f) args) R s := by
  refine Classical.byContradiction fun hG' => ?_
  obtain ⟨FG, BG, st, lv⟩ := groundX (R := R) B F N hA hf hke
  refine hG' ?_
  clear hG'
  have X := X₀.keeps F.keep
  have ho' := X _ _ ho
  refine codeX_call_function hroom ho' rfl hco hgen rfl (codeRec_of X hcd) (hbind _ _ _ _ ?_)
  refine wpAny_newFunctionEnv hcell hloc (fun h₁ hns hsb => ⟨(T.nolimit.keeps F.keep).fresh _ hsb, codeX_func ?_⟩) hk
  have hk₁ : ∀ b o, s.heap.get? b = some o → h₁.get? b = some o := fun b o e => hsb.extBut b o (Nat.ne_of_lt (Heap.lt_size e)) (Heap.get?_push_of_some _ e)
  exact wpX_mono (h _ s.heap.objs.size h₁ FG ⟨hns, fun b o e => hk₁ b o (of_hideAll _ e), Nat.le_of_eq (hideAll_size _ _)⟩
    (fun p hp => ⟨hk₁ _ _ (N p hp).1, Nat.ne_of_lt (Heap.lt_size (N p hp).1), hideAll_none _ (List.mem_map_of_mem hp)⟩) BG (X₀.keeps st) (T.keeps st)) (fun fl s' hl => lv _ _ hl) fun _ _ y => y
end
noncomputable def SpecX (prog : Program) (w : World) (K : Frag) (p : Program) (loose : List Str) (mean : ExcName → Option Value) (mg mb : Str → Option Value) (dd uu : Nat) (f : Addr) (vs : List Value) (T : Led) (Post : Value → Led → Prop) : Prop :=
  ∀ (dp un : Nat) (gd : Option (List Code)) (cn : Str) (cs : Scope) (a : Addr) (ccd : Value) (cl : List (Str × Addr)) (outer : List Env) (A₀ : Around) (base h₀ : Heap) (L : Addr) (m : Str → Option Value) (s : Shared) (Q E : Value → Shared → Prop),
    Below A₀ base outer h₀ → Fr h₀ L s.heap m → K.In h₀ → News h₀ L s.heap T → Top p loose mean mg mb h₀ → cs.kind = .function → dp + dd < recursionLimit → un + uu < cLine →
    (∀ (r : Value) (new : Led) (h' : Heap) (tk' : Nat), Fr h₀ L h' m → News h₀ L h' (new ++ T) → (∀ q ∈ T, ∀ p ∈ new, q.1 < p.1) → Post r new → Q r { s with heap := h', toks := tk' }) →
    wpX (model prog w) (ktrTop dp un gd cn cs L a ccd cl outer) (call (.ref f) vs) Q E s
end Mine
end
section
open PySem PySem.W PyProof.Rows PySem.Calls
set_option maxRecDepth 100000
namespace Mine
noncomputable def Stop (P : Prop) : Prop := P
theorem Stop.mk {P : Prop} (h : Stop P) : P := h
theorem Stop.in {P : Prop} (h : P) : Stop P := h
theorem absQE {α : Type} {M : Model} {A : Around} {t : Sem α} {Q : α → Shared → Prop} {E : Value → Shared → Prop} {s : Shared} (k : ∀ (Q' : α → Shared → Prop) (E' : Value → Shared → Prop), (∀ v s', Q v s' → Q' v s') → wpAny M A t Q' E' s) : wpAny M A t Q E s := k Q E fun _ _ h => h
noncomputable def TurnJ (h₀ : Heap) (L I : Addr) (it : Obj) (Jn : (Str → Option Value) → Led → Prop) (s₁ : Shared) (Q : Flow → Shared → Prop) (f : Flow) (s₂ : Shared) : Prop :=
  match f with
  | .ret v => Q (.ret v) s₂
  | .brk => Q .next s₂
  | _ => ∃ h' tk m' news', s₂ = { s₁ with heap := h', toks := tk } ∧ Fr h₀ L h' m' ∧ News h₀ L h' ((I, it) :: news') ∧ (∀ p ∈ news', p.1 ≠ I) ∧ Jn m' news'
section
variable {prog : Program} {w : World} {A : Around} {E : Value → Shared → Prop} {s : Shared} {env : Env} {h₀ : Heap} {x : Str} {body : List Stmt} {Q : Flow → Shared → Prop}
theorem loop_gen {I : Addr} {fp : List Addr} {n : Nat} {P : Nat → Value → Prop} {St : Nat → Heap → Prop} {m₀ : Str → Option Value} {news fix : Led} (ic : Obj → Prop) (J : Nat → (Str → Option Value) → Led → Prop)
    (W : Walks prog w A I fp [I] n P St) (hfI : I ∈ fp) (hLf : env.locals ∉ fp) (hI : h₀.get? I = none) (hob : ∀ i h, St i h → ∃ o, h.get? I = some o ∧ ic o)
    (hfp : ∀ b ∈ fp, b = I ∨ (∃ q, h₀.get? b = some q) ∨ ∃ o, (b, o) ∈ fix) (hfix : ∀ i m led, J i m led → ∀ p ∈ fix, p ∈ led)
    (hnw : ∀ p ∈ news, p.1 ≠ I) (hst : St 0 s.heap) (F : Fr h₀ env.locals s.heap m₀) (N : News h₀ env.locals s.heap news) (hj : J 0 m₀ news)
    (turn : ∀ i v m₁ news₁ h tk it, i < n → P i v → J i m₁ news₁ → (∀ p ∈ news₁, p.1 ≠ I) → ic it → Fr h₀ env.locals h (fun y => if y = x then some v else m₁ y) → News h₀ env.locals h ((I, it) :: news₁) →
      wpAny (model prog w) A (execs body env) (TurnJ h₀ env.locals I it (J (i + 1)) { s with heap := h, toks := tk } Q) E { s with heap := h, toks := tk })
    (done : ∀ m₁ news₁ h tk, J n m₁ news₁ → Fr h₀ env.locals h m₁ → News h₀ env.locals h news₁ → Q .next { s with heap := h, toks := tk }) :
    LoopAtV prog w A h₀ env x body Q E (.ref I) s := by
  refine ⟨I, fp, [I], n, P, St, m₀, news, J, rfl, W, hLf, ?_, ?_, hst, F, N, hj, ?_, ?_⟩
  · intro b hb; rw [List.mem_singleton.mp hb]; exact hI
  · intro p hp hm; exact hnw p hp (List.mem_singleton.mp hm)
  · intro i v m₁ news₁ s₁ own hp'1 hin hP hJ hoff hown hheap hall hst' F₁ N₁
    refine Classical.byContradiction fun hG' => ?_
    obtain ⟨hh', tk', rfl⟩ := hp'1
    obtain ⟨it, hit, hic⟩ := hob _ _ hst'
    refine hG' ?_
    clear hG'
    have hio : (I, it) ∈ own := hall I hfI hI it hit
    have hn1 : ∀ p ∈ news₁, p.1 ≠ I := fun p hp e => hoff p hp (by rw [e]; exact List.mem_singleton.mpr rfl)
    have N₂ : News h₀ env.locals hh' ((I, it) :: news₁) := fun p hp => by
      rcases List.mem_cons.mp hp with e | hp
      · rw [e]; exact N₁ _ (List.mem_append_left _ hio)
      · exact N₁ _ (List.mem_append_right _ hp)
    refine wpAny_mono (turn i v m₁ news₁ hh' tk' it hin hP hJ hn1 hic F₁ N₂) (fun f s₂ p => ?_) fun _ _ e => e
    have fin : (∃ h' tk m' news', s₂ = { ({ s with heap := hh', toks := tk' } : Shared) with heap := h', toks := tk } ∧ Fr h₀ env.locals h' m' ∧ News h₀ env.locals h' ((I, it) :: news') ∧ (∀ p ∈ news', p.1 ≠ I) ∧ J (i + 1) m' news') →
        LoopStepU h₀ env.locals [I] own (J (i + 1)) { s with heap := hh', toks := tk' } .next s₂ := by
      intro hp'1
      refine Classical.byContradiction fun hG' => ?_
      obtain ⟨h', tk, m', news', e, F', N', hn, hj'⟩ := hp'1
      refine hG' ?_
      clear hG'
      refine ⟨rfl, h', tk, m', news', e, F', fun p hp => ?_, fun p hp hm => hn p hp (List.mem_singleton.mp hm), hj'⟩
      rcases List.mem_append.mp hp with hp | hp
      · rcases hfp p.1 (hown p hp) with e1 | ⟨q, hq⟩ | ⟨o, ho⟩
        · have h4 := hheap p hp
          rw [e1, show ({ s with heap := hh', toks := tk' } : Shared).heap.get? I = some it from hit] at h4
          have e2 : p = (I, it) := Prod.ext e1 (Option.some.inj h4).symm
          rw [e2]; exact N' _ (.head _)
        · have h5 := (N₁ p (List.mem_append_left _ hp)).2.2
          rw [hq] at h5; cases h5
        · have h6 := hfix _ _ _ hJ _ ho
          have h7 := (N₁ _ (List.mem_append_right _ h6)).1
          have h8 := hheap p hp
          rw [show ({ s with heap := hh', toks := tk' } : Shared).heap = hh' from rfl] at h8
          rw [h7] at h8
          have e2 : p = (p.1, o) := Prod.ext rfl (Option.some.inj h8).symm
          rw [e2]; exact N' _ (.tail _ (hfix _ _ _ hj' _ ho))
      · exact N' _ (.tail _ hp)
    cases f with
    | ret v => exact .ret p
    | brk => exact .brk p
    | next => exact .next (fin p)
    | cont => exact .cont (fin p)
  · rintro h' tk m' news' F' N' _ hJ
    exact done m' news' h' tk hJ F' N'

theorem iter_rangeJ {r : Addr} {a b c : Int} {t u v : Tok} {n : Nat} {m₀ : Str → Option Value} {news : Led} (J : Nat → (Str → Option Value) → Led → Prop)
    (hh : A.handled = none) (hr : IsRange s.heap r a b c t u v) (hsmall : Builtin.Range.small a b c = true) (hn : Builtin.Range.rangeSize a b c = (n : Int)) (F : Fr h₀ env.locals s.heap m₀) (N : News h₀ env.locals s.heap news) (hj : J 0 m₀ news)
    (turn : ∀ I i t' m₁ news₁ h tk it, i < n → J i m₁ news₁ → (∀ p ∈ news₁, p.1 ≠ I) → (∀ p ∈ news, @LT.lt Nat _ p.1 I) → it.cls = .type "range_iterator" → Fr h₀ env.locals h (fun y => if y = x then some (.int (a + (i : Int) * c) t') else m₁ y) → News h₀ env.locals h ((I, it) :: news₁) →
      wpAny (model prog w) A (execs body env) (TurnJ h₀ env.locals I it (J (i + 1)) { s with heap := h, toks := tk } Q) E { s with heap := h, toks := tk })
    (done : ∀ m₁ news₁ h tk, J n m₁ news₁ → Fr h₀ env.locals h m₁ → News h₀ env.locals h news₁ → Q .next { s with heap := h, toks := tk }) :
    wpAny (model prog w) A (pyIter (.ref r)) (fun it s₂ => LoopAtV prog w A h₀ env x body Q E it s₂) E s := by
  refine wpAny_pyIter_range hr hsmall ?_
  have W := (Walks.range (prog := prog) (w := w) hh s.heap.objs.size a c n).bound
  have W2 : Walks prog w A s.heap.objs.size [s.heap.objs.size] [s.heap.objs.size] n (fun i v => i < n ∧ ∃ t, v = .int (a + (i : Int) * c) t)
      (fun i h => IsRangeIter h s.heap.objs.size (a + (i : Nat) * c) ((n : Int) - (i : Nat)) c) := W
  refine loop_gen (fix := []) (fun o => o.cls = .type "range_iterator") J W2 (by simp) ?_ (next_is_new F) (fun i h hst => ⟨_, hst, rfl⟩) (fun b hb => .inl (List.mem_singleton.mp hb)) (fun _ _ _ _ _ hp => nomatch hp) (fun p hp e => ?_) ?_ (F.push _) (fun p hp => ⟨Heap.get?_push_of_some _ (N p hp).1, (N p hp).2⟩) hj ?_ ?_
  · intro hm
    exact absurd F.ns.lt ((List.mem_singleton.mp hm) ▸ Nat.lt_irrefl _)
  · exact absurd (Heap.lt_size (N p hp).1) (e ▸ Nat.lt_irrefl _)
  · show IsRangeIter _ _ _ _ _
    rw [hn]
    simpa using Heap.get?_push_size _ rfl
  · intro i v m₁ news₁ h tk it hi hp'1 hJ hne hic F₁ N₁
    refine Classical.byContradiction fun hG' => ?_
    obtain ⟨_, t', rfl⟩ := hp'1
    refine hG' ?_
    clear hG'
    exact turn _ i t' m₁ news₁ h tk it hi hJ hne (fun p hp => Heap.lt_size (N p hp).1) hic F₁ N₁
  · exact done
theorem iter_listJ {l : Addr} {vs : List Value} {k : Nat} {m₀ : Str → Option Value} {news : Led} (J : Nat → (Str → Option Value) → Led → Prop)
    (hh : A.handled = none) (hl : (l, listOf vs.toArray k) ∈ news) (hfix : ∀ i m led, J i m led → (l, listOf vs.toArray k) ∈ led) (F : Fr h₀ env.locals s.heap m₀) (N : News h₀ env.locals s.heap news) (hj : J 0 m₀ news)
    (turn : ∀ I i v m₁ news₁ h tk it, vs[i]? = some v → J i m₁ news₁ → (∀ p ∈ news₁, p.1 ≠ I) → (∀ p ∈ news, @LT.lt Nat _ p.1 I) → it.cls = .type "list_iterator" → Fr h₀ env.locals h (fun y => if y = x then some v else m₁ y) → News h₀ env.locals h ((I, it) :: news₁) →
      wpAny (model prog w) A (execs body env) (TurnJ h₀ env.locals I it (J (i + 1)) { s with heap := h, toks := tk } Q) E { s with heap := h, toks := tk })
    (done : ∀ m₁ news₁ h tk, J vs.length m₁ news₁ → Fr h₀ env.locals h m₁ → News h₀ env.locals h news₁ → Q .next { s with heap := h, toks := tk }) :
    wpAny (model prog w) A (pyIter (.ref l)) (fun it s₂ => LoopAtV prog w A h₀ env x body Q E it s₂) E s := by
  have hls : s.heap.IsList l vs.toArray := PySem.IsL.isList (n := k) (N _ hl).1
  have hne : l ≠ s.heap.objs.size := Nat.ne_of_lt (Heap.lt_size (N _ hl).1)
  refine wpAny_pyIter_list hls ?_
  have W := Walks.list (prog := prog) (w := w) hh s.heap.objs.size l hne vs.toArray
  rw [List.size_toArray] at W
  refine loop_gen (fix := [(l, listOf vs.toArray k)]) (fun o => o.cls = .type "list_iterator") J W (by simp) ?_ (next_is_new F) (fun i h hst => ?_) (fun b hb => ?_) (fun i m led hj p hp => by rw [List.mem_singleton.mp hp]; exact hfix i m led hj) (fun p hp e => ?_)
    ⟨⟨_, Heap.get?_push_size _ rfl, rfl, rfl⟩, hls.at fun o e => Heap.get?_push_of_some _ e⟩ (F.push _) (fun p hp => ⟨Heap.get?_push_of_some _ (N p hp).1, (N p hp).2⟩) hj ?_ ?_
  · intro hm
    rcases List.mem_cons.mp hm with e | hm
    · exact absurd F.ns.lt (e ▸ Nat.lt_irrefl _)
    · exact (N _ hl).2.1 (List.mem_singleton.mp hm).symm
  · obtain ⟨⟨o, ho, hc, _⟩, _⟩ := hst
    exact ⟨o, ho, hc⟩
  · rcases List.mem_cons.mp hb with e | hb
    · exact .inl e
    · exact .inr (.inr ⟨listOf vs.toArray k, by rw [List.mem_singleton.mp hb]; exact List.mem_singleton.mpr rfl⟩)
  · exact absurd (Heap.lt_size (N p hp).1) (e ▸ Nat.lt_irrefl _)
  · rintro i v m₁ news₁ h tk it hi hv hJ hne hic F₁ N₁
    exact turn _ i v m₁ news₁ h tk it (by simpa using hv) hJ hne (fun p hp => Heap.lt_size (N p hp).1) hic F₁ N₁
  · exact done
noncomputable def NotCode (o : Obj) : Prop := ∀ (vs : Array Value) (q : Str) (t : Tok), o.data = .fields vs → vs[1]? ≠ some (.str q t)
theorem iter_listN {l : Addr} {vs : List Value} {k : Nat} {m₀ : Str → Option Value} {news : Led} (J : Nat → (Str → Option Value) → Led → Prop)
    (hh : A.handled = none) (hl : (l, listOf vs.toArray k) ∈ news) (hfix : ∀ i m led, J i m led → (l, listOf vs.toArray k) ∈ led) (F : Fr h₀ env.locals s.heap m₀) (N : News h₀ env.locals s.heap news) (hj : J 0 m₀ news)
    (turn : ∀ I i v m₁ news₁ h tk it, vs[i]? = some v → J i m₁ news₁ → (∀ p ∈ news₁, p.1 ≠ I) → (∀ p ∈ news, @LT.lt Nat _ p.1 I) → it.cls = .type "list_iterator" ∧ NotCode it → Fr h₀ env.locals h (fun y => if y = x then some v else m₁ y) → News h₀ env.locals h ((I, it) :: news₁) →
      wpAny (model prog w) A (execs body env) (TurnJ h₀ env.locals I it (J (i + 1)) { s with heap := h, toks := tk } Q) E { s with heap := h, toks := tk })
    (done : ∀ m₁ news₁ h tk, J vs.length m₁ news₁ → Fr h₀ env.locals h m₁ → News h₀ env.locals h news₁ → Q .next { s with heap := h, toks := tk }) :
    wpAny (model prog w) A (pyIter (.ref l)) (fun it s₂ => LoopAtV prog w A h₀ env x body Q E it s₂) E s := by
  have hls : s.heap.IsList l vs.toArray := PySem.IsL.isList (n := k) (N _ hl).1
  have hne : l ≠ s.heap.objs.size := Nat.ne_of_lt (Heap.lt_size (N _ hl).1)
  refine wpAny_pyIter_list hls ?_
  have W := Walks.list (prog := prog) (w := w) hh s.heap.objs.size l hne vs.toArray
  rw [List.size_toArray] at W
  refine loop_gen (fix := [(l, listOf vs.toArray k)]) (fun o => o.cls = .type "list_iterator" ∧ NotCode o) J W (by simp) ?_ (next_is_new F) (fun i h hst => ?_) (fun b hb => ?_) (fun i m led hj p hp => by rw [List.mem_singleton.mp hp]; exact hfix i m led hj) (fun p hp e => ?_)
    ⟨⟨_, Heap.get?_push_size _ rfl, rfl, rfl⟩, hls.at fun o e => Heap.get?_push_of_some _ e⟩ (F.push _) (fun p hp => ⟨Heap.get?_push_of_some _ (N p hp).1, (N p hp).2⟩) hj ?_ ?_
  · intro hm
    rcases List.mem_cons.mp hm with e | hm
    · exact absurd F.ns.lt (e ▸ Nat.lt_irrefl _)
    · exact (N _ hl).2.1 (List.mem_singleton.mp hm).symm
  · obtain ⟨⟨o, ho, hc, hd⟩, _⟩ := hst
    refine ⟨o, ho, hc, fun vs' q t e => ?_⟩
    rw [hd] at e
    cases e
    simp
  · rcases List.mem_cons.mp hb with e | hb
    · exact .inl e
    · exact .inr (.inr ⟨listOf vs.toArray k, by rw [List.mem_singleton.mp hb]; exact List.mem_singleton.mpr rfl⟩)
  · exact absurd (Heap.lt_size (N p hp).1) (e ▸ Nat.lt_irrefl _)
  · rintro i v m₁ news₁ h tk it hi hv hJ hne hic F₁ N₁
    exact turn _ i v m₁ news₁ h tk it (by simpa using hv) hJ hne (fun p hp => Heap.lt_size (N p hp).1) hic F₁ N₁
  · exact done
theorem iter_rangeN {r : Addr} {a b c : Int} {t u v : Tok} {n : Nat} {m₀ : Str → Option Value} {news : Led} (J : Nat → (Str → Option Value) → Led → Prop)
    (hh : A.handled = none) (hr : IsRange s.heap r a b c t u v) (hsmall : Builtin.Range.small a b c = true) (hn : Builtin.Range.rangeSize a b c = (n : Int)) (F : Fr h₀ env.locals s.heap m₀) (N : News h₀ env.locals s.heap news) (hj : J 0 m₀ news)
    (turn : ∀ I i t' m₁ news₁ h tk it, i < n → J i m₁ news₁ → (∀ p ∈ news₁, p.1 ≠ I) → (∀ p ∈ news, @LT.lt Nat _ p.1 I) → it.cls = .type "range_iterator" ∧ NotCode it → Fr h₀ env.locals h (fun y => if y = x then some (.int (a + (i : Int) * c) t') else m₁ y) → News h₀ env.locals h ((I, it) :: news₁) →
      wpAny (model prog w) A (execs body env) (TurnJ h₀ env.locals I it (J (i + 1)) { s with heap := h, toks := tk } Q) E { s with heap := h, toks := tk })
    (done : ∀ m₁ news₁ h tk, J n m₁ news₁ → Fr h₀ env.locals h m₁ → News h₀ env.locals h news₁ → Q .next { s with heap := h, toks := tk }) :
    wpAny (model prog w) A (pyIter (.ref r)) (fun it s₂ => LoopAtV prog w A h₀ env x body Q E it s₂) E s := by
  refine wpAny_pyIter_range hr hsmall ?_
  have W := (Walks.range (prog := prog) (w := w) hh s.heap.objs.size a c n).bound
  have W2 : Walks prog w A s.heap.objs.size [s.heap.objs.size] [s.heap.objs.size] n (fun i v => i < n ∧ ∃ t, v = .int (a + (i : Int) * c) t)
      (fun i h => IsRangeIter h s.heap.objs.size (a + (i : Nat) * c) ((n : Int) - (i : Nat)) c) := W
  refine loop_gen (fix := []) (fun o => o.cls = .type "range_iterator" ∧ NotCode o) J W2 (by simp) ?_ (next_is_new F) (fun i h hst => ⟨_, hst, rfl, fun vs' q t e => by cases e; simp [rawInt]⟩) (fun b hb => .inl (List.mem_singleton.mp hb)) (fun _ _ _ _ _ hp => nomatch hp) (fun p hp e => ?_) ?_ (F.push _) (fun p hp => ⟨Heap.get?_push_of_some _ (N p hp).1, (N p hp).2⟩) hj ?_ ?_
  · intro hm
    exact absurd F.ns.lt ((List.mem_singleton.mp hm) ▸ Nat.lt_irrefl _)
  · exact absurd (Heap.lt_size (N p hp).1) (e ▸ Nat.lt_irrefl _)
  · show IsRangeIter _ _ _ _ _
    rw [hn]
    simpa using Heap.get?_push_size _ rfl
  · intro i v m₁ news₁ h tk it hi hp'1 hJ hne hic F₁ N₁
    refine Classical.byContradiction fun hG' => ?_
    obtain ⟨_, t', rfl⟩ := hp'1
    refine hG' ?_
    clear hG'
    exact turn _ i t' m₁ news₁ h tk it hi hJ hne (fun p hp => Heap.lt_size (N p hp).1) hic F₁ N₁
  · exact done
end
end Mine
end
section
open PySem PySem.W PyProof.Rows PySem.Calls
set_option maxRecDepth 100000
namespace Mine
noncomputable def TurnD (h₀ : Heap) (L I : Addr) (it : Obj) (stored : List Str) (m₀ : Str → Option Value) (d : Addr) (Dn : Obj → Prop) (T : Led) (s₁ : Shared) (Q : Flow → Shared → Prop) (f : Flow) (s₂ : Shared) : Prop :=
  match f with
  | .ret v => Q (.ret v) s₂
  | .brk => Q .next s₂
  | _ => ∃ h' tk m' o, s₂ = { s₁ with heap := h', toks := tk } ∧ Fr h₀ L h' m' ∧ News h₀ L h' ((I, it) :: (d, o) :: T) ∧ (∀ y, stored.contains y = false → m' y = m₀ y) ∧ Dn o
noncomputable def mapD (stored : List Str) (u m₀ : Str → Option Value) : Str → Option Value := fun y => if stored.contains y then u y else m₀ y
theorem mapD_of {stored : List Str} {m' m₀ : Str → Option Value} (h : ∀ y, stored.contains y = false → m' y = m₀ y) : m' = mapD stored m' m₀ := by
  funext y
  unfold mapD
  cases e : stored.contains y with
  | true => rfl
  | false => exact h y e
theorem mapD_self {stored : List Str} {m₀ : Str → Option Value} : m₀ = mapD stored m₀ m₀ := by
  funext y
  unfold mapD
  split <;> rfl
noncomputable def JD (stored : List Str) (m₀ : Str → Option Value) (d : Addr) (T : Led) (Dp : Nat → Obj → Prop) (i : Nat) (m : Str → Option Value) (led : Led) : Prop :=
  ∃ u o, m = mapD stored u m₀ ∧ led = (d, o) :: T ∧ Dp i o
section
variable {prog : Program} {w : World} {A : Around} {E : Value → Shared → Prop} {s : Shared} {env : Env} {h₀ : Heap} {x : Str} {body : List Stmt} {Q : Flow → Shared → Prop}
theorem TurnD.toJ {L I d : Addr} {it : Obj} {stored : List Str} {m₀ : Str → Option Value} {Dp : Nat → Obj → Prop} {T : Led} {s₁ s₂ : Shared} {f : Flow} {i : Nat} (hd : d ≠ I) (hT : ∀ p ∈ T, p.1 ≠ I)
    (h : TurnD h₀ L I it stored m₀ d (Dp i) T s₁ Q f s₂) : TurnJ h₀ L I it (JD stored m₀ d T Dp i) s₁ Q f s₂ := by
  have conv : (∃ h' tk m' o, s₂ = { s₁ with heap := h', toks := tk } ∧ Fr h₀ L h' m' ∧ News h₀ L h' ((I, it) :: (d, o) :: T) ∧ (∀ y, stored.contains y = false → m' y = m₀ y) ∧ Dp i o) →
      ∃ h' tk m' news', s₂ = { s₁ with heap := h', toks := tk } ∧ Fr h₀ L h' m' ∧ News h₀ L h' ((I, it) :: news') ∧ (∀ p ∈ news', p.1 ≠ I) ∧ JD stored m₀ d T Dp i m' news' := by
    intro hp'1
    refine Classical.byContradiction fun hG' => ?_
    obtain ⟨h', tk, m', o, e, F, N, hm, hD⟩ := hp'1
    refine hG' ?_
    clear hG'
    refine ⟨h', tk, m', (d, o) :: T, e, F, N, fun p hp => ?_, m', o, mapD_of hm, rfl, hD⟩
    rcases List.mem_cons.mp hp with rfl | hp
    · exact hd
    · exact hT p hp
  cases f with
  | ret v => exact h
  | brk => exact h
  | next => exact conv h
  | cont => exact conv h
theorem iter_rangeD {r : Addr} {a b c : Int} {t u v : Tok} {n : Nat} {m₀ : Str → Option Value} {d : Addr} {o₀ : Obj} {T : Led} (stored : List Str) (Dp : Nat → Obj → Prop)
    (hh : A.handled = none) (hr : IsRange s.heap r a b c t u v) (hsmall : Builtin.Range.small a b c = true) (hn : Builtin.Range.rangeSize a b c = (n : Int)) (F : Fr h₀ env.locals s.heap m₀) (N : News h₀ env.locals s.heap ((d, o₀) :: T)) (h0 : Dp 0 o₀)
    (turn : ∀ I i t' u o h tk it, i < n → Dp i o → d ≠ I → (∀ p ∈ T, p.1 ≠ I) → (∀ p ∈ T, @LT.lt Nat _ p.1 I) → @LT.lt Nat _ d I → it.cls = .type "range_iterator" → Fr h₀ env.locals h (fun y => if y = x then some (.int (a + (i : Int) * c) t') else mapD stored u m₀ y) → News h₀ env.locals h ((I, it) :: (d, o) :: T) →
      wpAny (model prog w) A (execs body env) (TurnD h₀ env.locals I it stored m₀ d (Dp (i + 1)) T { s with heap := h, toks := tk } Q) E { s with heap := h, toks := tk })
    (done : ∀ u o h tk, Dp n o → Fr h₀ env.locals h (mapD stored u m₀) → News h₀ env.locals h ((d, o) :: T) → Q .next { s with heap := h, toks := tk }) :
    wpAny (model prog w) A (pyIter (.ref r)) (fun it s₂ => LoopAtV prog w A h₀ env x body Q E it s₂) E s := by
  refine iter_rangeJ (JD stored m₀ d T Dp) hh hr hsmall hn F N ⟨m₀, o₀, mapD_self, rfl, h0⟩ ?_ ?_
  · intro I i t' m₁ news₁ h tk it hi hp'1 hne hlt hic F₁ N₁
    refine Classical.byContradiction fun hG' => ?_
    obtain ⟨u', o, rfl, rfl, hD⟩ := hp'1
    refine hG' ?_
    clear hG'
    have hd : d ≠ I := hne _ (.head _)
    have hT : ∀ p ∈ T, p.1 ≠ I := fun p hp => hne p (.tail _ hp)
    exact wpAny_mono (turn I i t' u' o h tk it hi hD hd hT (fun p hp => hlt p (.tail _ hp)) (hlt (d, o₀) (.head _)) hic F₁ N₁) (fun f s₂ z => z.toJ hd hT) fun _ _ z => z
  · intro m₁ news₁ h tk hp'1 F₁ N₁
    refine Classical.byContradiction fun hG' => ?_
    obtain ⟨u', o, rfl, rfl, hD⟩ := hp'1
    refine hG' ?_
    clear hG'
    exact done u' o h tk hD F₁ N₁
end
theorem range_small' {a b c : Int} (ha : 0 ≤ a ∧ a < 1000000) (hb : 0 ≤ b ∧ b < 1000000) (hc : 0 < c ∧ c < 1000000) : Builtin.Range.small a b c = true := by
  have h := Int.ediv_nonneg (a := b - a - 1) (b := c)
  have h2 : (b - a - 1) / c ≤ 1000000 := by
    apply Int.le_of_lt_add_one
    apply Int.ediv_lt_of_lt_mul hc.1
    have : (1000000 + 1) * 1 ≤ (1000000 + 1) * c := Int.mul_le_mul_of_nonneg_left (by omega) (by omega)
    omega
  have h4 : 0 ≤ Builtin.Range.rangeSize a b c ∧ Builtin.Range.rangeSize a b c ≤ 1000001 := by
    unfold Builtin.Range.rangeSize
    rw [if_pos hc.1]
    split
    · have h3 := h (by omega) (by omega)
      omega
    · omega
  unfold Builtin.Range.small
  simp only [Builtin.Range.rangeFitsLong, Bool.and_eq_true, Bool.or_eq_true, decide_eq_true_eq, beq_iff_eq, gt_iff_lt]
  clear h h2
  generalize Builtin.Range.rangeSize a b c = n at *
  refine ⟨⟨⟨⟨⟨?_, ?_⟩, ?_, ?_⟩, ?_, ?_⟩, ?_, ?_⟩, ?_⟩
  all_goals first | omega | (right; rw [if_pos hc.1]; simp only [Bool.and_eq_true, decide_eq_true_eq]; omega)
theorem range_size' {n w : Int} {q : Nat} (hw : 0 < w) (hq : n = q * w) : Builtin.Range.rangeSize 0 n w = (q : Int) := by
  rw [rangeSize_pos (by omega) (by rw [hq]; exact Int.mul_nonneg (by omega) (by omega)), hq]
  rw [show (q : Int) * w + w - 1 = (w - 1) + q * w from by omega]
  rw [Int.add_mul_ediv_right _ _ (by omega)]
  rw [Int.ediv_eq_zero_of_lt (by omega) (by omega)]
  omega
theorem news_swap {h₀ h : Heap} {L : Addr} {p q : Addr × Obj} {T : Led} (N : News h₀ L h (p :: q :: T)) : News h₀ L h (q :: p :: T) := fun x hx => N x (by
  rcases List.mem_cons.mp hx with rfl | hx
  · exact .tail _ (.head _)
  · rcases List.mem_cons.mp hx with rfl | hx
    · exact .head _
    · exact .tail _ (.tail _ hx))
theorem range_size1 {n : Int} {q : Nat} (hq : n = q) : Builtin.Range.rangeSize 0 n 1 = (q : Int) := by
  subst hq
  have := range_size' (n := (q : Int)) (w := 1) (q := q) (by omega) (by omega)
  exact this
theorem TurnD.fin {h₀ h' : Heap} {L I d : Addr} {it o : Obj} {stored : List Str} {m₀ m' : Str → Option Value} {Dn : Obj → Prop} {T : Led} {s₁ : Shared} {tk : Nat} {Q : Flow → Shared → Prop}
    (F : Fr h₀ L h' m') (N : News h₀ L h' ((I, it) :: (d, o) :: T)) (hm : ∀ y, stored.contains y = false → m' y = m₀ y) (hD : Dn o) : TurnD h₀ L I it stored m₀ d Dn T s₁ Q .next { s₁ with heap := h', toks := tk } :=
  ⟨h', tk, m', o, rfl, F, N, hm, hD⟩
theorem map_base {stored : List Str} {u m₀ : Str → Option Value} : ∀ y, stored.contains y = false → mapD stored u m₀ y = m₀ y := fun y hy => by unfold mapD; rw [hy]; rfl
theorem map_self {stored : List Str} {m₀ : Str → Option Value} : ∀ y, stored.contains y = false → m₀ y = m₀ y := fun _ _ => rfl
theorem map_peel {stored : List Str} {a : Str} {v : Option Value} {m m₀ : Str → Option Value} (ha : stored.contains a = true) (h : ∀ y, stored.contains y = false → m y = m₀ y) :
    ∀ y, stored.contains y = false → (if y = a then v else m y) = m₀ y := fun y hy => by
  rw [if_neg (fun e => by rw [e, ha] at hy; cases hy)]
  exact h y hy
theorem map_inner {stored inner : List Str} {u m m₀ : Str → Option Value} (hi : (inner.all fun y => stored.contains y) = true) (h : ∀ y, stored.contains y = false → m y = m₀ y) :
    ∀ y, stored.contains y = false → mapD inner u m y = m₀ y := fun y hy => by
  unfold mapD
  have e : inner.contains y = false := by
    cases e : inner.contains y with
    | false => rfl
    | true =>
      exfalso
      have h2 := List.all_eq_true.mp hi y (List.contains_iff_mem.mp e)
      rw [hy] at h2
      cases h2
  rw [e]
  exact h y hy
end Mine
end
section
open PySem PySem.W PyProof.Rows PySem.Calls
set_option maxRecDepth 100000
namespace Mine
section
variable {prog : Program} {w : World} {A : Around} {E : Value → Shared → Prop} {s : Shared} {h₀ : Heap} {L D : Addr} {m : Str → Option Value} {news news' : Led}
theorem setItem_baK {b : Array UInt8} {k x : Int} {t u : Tok} {Q : Unit → Shared → Prop} (F : Fr h₀ L s.heap m) (N : News h₀ L s.heap news) (U : Upd D (baObj b) (baObj (b.setIfInBounds k.toNat x.toNat.toUInt8)) news news')
    (hz : b.size ≤ 1000000 ∧ (0 ≤ k ∧ k < (b.size : Int))) (hx : 0 ≤ x ∧ x < 256) (h : ∀ h', Fr h₀ L h' m → News h₀ L h' news' → Q () { s with heap := h' }) :
    wpAny (model prog w) A (setItem (.ref D) (.int k t) (.int x u)) Q E s := by
  obtain ⟨pre, post, rfl, rfl, a, b'⟩ := U.split
  have z := N (D, baObj b) (List.mem_append.mpr (.inr (.head _)))
  refine ba_setAt z.1 hz.2.1 hz.2.2 hz.1 hx ?_
  have hs := Heap.SameBut.update s.heap D (Obj.mapBytearray (·.setIfInBounds k.toNat x.toNat.toUInt8))
  exact h _ (F.change hs z.2.1 z.2.2) (news_set N a b' hs (Heap.get?_update_self (Obj.mapBytearray (·.setIfInBounds k.toNat x.toNat.toUInt8)) z.1 rfl))
theorem bytes_baK {b : Array UInt8} {Q : Value → Shared → Prop} (hh : A.handled = none) (F : Fr h₀ L s.heap m) (N : News h₀ L s.heap news) (hm : (D, baObj b) ∈ news) (hz : b.size ≤ 1000000)
    (h : ∀ t tk, Q (.bytes b t) { s with toks := tk }) : wpAny (model prog w) A (call (.type "bytes") [.ref D]) Q E s :=
  ba_bytes (N _ hm).1 hz hh h
end
theorem item_bK {prog : Program} {w : World} {A : Around} {E : Value → Shared → Prop} {s : Shared} {value slice : Expr} {b : Array UInt8} {t u : Tok} {i : Int} {Q : Value → Shared → Prop} (hz : b.size ≤ 1000000) (h0 : 0 ≤ i ∧ i < b.size)
    (h : Q (.int ((b.getD i.toNat 0).toNat : Int) s.toks) { s with toks := s.toks + 1 })
    (hs : subscripted slice false (.bytes b t) (.int i u) = operate [.bytes b t, .int i u] (getItem (.bytes b t) (.int i u)) := by with_unfolding_all rfl)
    (ht : ∀ r, letTemporaryGo value (.bytes b t) r = pure () := by intro _; with_unfolding_all rfl) : wpAny (model prog w) A (subscriptTail value slice (.bytes b t) (.int i u)) Q E s := by
  refine subscriptTail_builtin (typeIs_bytes _ _ _) PySem.W.FB.slot_bytes_getitem.lookup ?_ hs ht
  have e1 : b = b.toList.toArray := by simp
  have e2 : b.getD i.toNat 0 = b.toList.getD i.toNat 0 := by simp [Array.getD_eq_getD_getElem?, List.getD_eq_getElem?_getD]
  rw [e2] at h
  have hl : b.toList.length = b.size := by simp
  generalize b.toList = l at *
  subst e1
  exact getItem_bytes (by omega) h0.1 (by omega) h
theorem byte_rng (c : UInt8) : 0 ≤ (c.toNat : Int) ∧ (c.toNat : Int) < 256 := by have := c.toNat_lt; omega
noncomputable def bswIn (b : Array UInt8) (w q : Nat) (acc : Array UInt8) : Nat → Array UInt8
  | 0 => acc
  | j + 1 => (bswIn b w q acc j).setIfInBounds (q * w + w - 1 - j) (b.getD (q * w + j) 0)
noncomputable def bswOut (b : Array UInt8) (w : Nat) : Nat → Array UInt8
  | 0 => Array.replicate b.size 0
  | q + 1 => bswIn b w q (bswOut b w q) w
theorem bswIn_size (b : Array UInt8) (w q : Nat) (acc : Array UInt8) : ∀ j, (bswIn b w q acc j).size = acc.size
  | 0 => rfl
  | j + 1 => by rw [bswIn, Array.size_setIfInBounds, bswIn_size b w q acc j]
theorem bswOut_size (b : Array UInt8) (w : Nat) : ∀ q, (bswOut b w q).size = b.size
  | 0 => by rw [bswOut, Array.size_replicate]
  | q + 1 => by rw [bswOut, bswIn_size, bswOut_size b w q]
theorem bsw0 {b : Array UInt8} {w : Nat} : baObj (Array.replicate (b.size : Int).toNat 0) = baObj (bswOut b w 0) := rfl -- walkbytes
end Mine
end
section
open PySem PySem.W PyProof.Rows PySem.Calls
set_option maxRecDepth 100000
set_option exponentiation.threshold 6000
namespace Mine
noncomputable def big : Nat := 10000000
noncomputable def Small (a : Int) : Prop := a.natAbs < 2 ^ big
theorem Small.bits {a : Int} (h : Small a) : Builtin.Int.intBits a ≤ big := intBits_le h
theorem small_pow {a : Int} {k : Nat} (h : a.natAbs < 2 ^ k) (hk : k ≤ big) : Small a := Nat.lt_of_lt_of_le h (Nat.pow_le_pow_right (by decide) hk)
theorem small_int {a : Int} (h : -1000000000 < a ∧ a < 1000000000) : Small a := small_pow (k := 30) (by omega) (by unfold big; omega)
section
variable {prog : Program} {w : World} {A : Around} {E : Value → Shared → Prop} {s : Shared} {t u : Tok} {a b : Int}
theorem rshift1_K {Q : Value → Shared → Prop} (h : Q (.int (a / 2) s.toks) { s with toks := s.toks + 1 }) : wpAny (model prog w) A (binaryOp .RShift (.int a t) (.int 1 u)) Q E s := by
  refine rshift_int (by omega) ?_
  rw [show (2 : Int) ^ (1 : Int).toNat = 2 from rfl, Int.fdiv_eq_ediv_of_nonneg _ (by omega)]
  exact h
theorem rshift_K {Q : Value → Shared → Prop} (hb : 0 ≤ b) (h : Q (.int (a / 2 ^ b.toNat) s.toks) { s with toks := s.toks + 1 }) : wpAny (model prog w) A (binaryOp .RShift (.int a t) (.int b u)) Q E s := by
  refine rshift_int hb ?_
  rw [Int.fdiv_eq_ediv_of_nonneg _ (Int.pow_nonneg (by omega))]
  exact h
theorem lshift_K {Q : Value → Shared → Prop} (hs : Small a) (hb : 0 ≤ b ∧ b ≤ 10000000) (h : Q (.int (a * 2 ^ b.toNat) s.toks) { s with toks := s.toks + 1 }) : wpAny (model prog w) A (binaryOp .LShift (.int a t) (.int b u)) Q E s := by
  refine lshift_int hb.1 ?_ h
  have := hs.bits
  unfold big at this
  omega
theorem mul_K {Q : Value → Shared → Prop} (ha : Small a) (hb : Small b) (h : Q (.int (a * b) s.toks) { s with toks := s.toks + 1 }) : wpAny (model prog w) A (binaryOp .Mult (.int a t) (.int b u)) Q E s := by
  refine PyProof.Rows.mul_int h ?_
  unfold IntMulOk
  have h1 := ha.bits
  have h2 := hb.bits
  unfold big at h1 h2
  rw [show Builtin.Int.intTooBig ((Builtin.Int.intBits a : Int) + (Builtin.Int.intBits b : Int)) = false from by
    unfold Builtin.Int.intTooBig bitsLine
    simp only [decide_eq_false_iff_not]
    omega]
  simp
end
section
variable {prog : Program} {w : World} {A : Around} {E : Value → Shared → Prop} {s : Shared} {h₀ : Heap} {L l : Addr} {news : Led} {vs : List Value} {ds : List Int} {k : Nat} {i : Int} {u : Tok}
theorem len_lK {Q : Value → Shared → Prop} (N : News h₀ L s.heap news) (hm : (l, listOf vs.toArray k) ∈ news) (hz : vs.length ≤ 1000000)
    (h : ∀ t, Q (.int vs.length t) { s with toks := s.toks + 1 + 1 }) : wpAny (model prog w) A (call (.builtin "len") [.ref l]) Q E s :=
  PySem.Calls.call_len_list (PySem.IsL.isList (n := k) (N _ hm).1) (by rw [List.size_toArray]; omega) (by rw [List.size_toArray]; exact h _)
theorem truthy_lK {Q : Bool → Shared → Prop} (N : News h₀ L s.heap news) (hm : (l, listOf vs.toArray k) ∈ news) (hz : vs.length ≤ 1000000)
    (h : Q (decide (0 < vs.length)) { s with toks := s.toks + 1 + 1 }) : wpAny (model prog w) A (truthy (.ref l)) Q E s :=
  wpAny_truthy_list (PySem.IsL.isList (n := k) (N _ hm).1) (by rw [List.size_toArray]; omega) (by
    have e : (!vs.toArray.isEmpty) = decide (0 < vs.length) := by cases vs <;> simp
    rw [e]; exact h)
end
noncomputable def dnum (n : Nat) : List Int → Int
  | [] => 0
  | d :: r => d + 2 ^ n * dnum n r
theorem dnum_append (n : Nat) : ∀ (a b : List Int), dnum n (a ++ b) = dnum n a + 2 ^ (n * a.length) * dnum n b
  | [], b => by simp [dnum]
  | d :: r, b => by
    rw [List.cons_append, dnum, dnum, dnum_append n r b, List.length_cons, Nat.mul_succ, Int.pow_add, Int.mul_add]
    rw [show (2 : Int) ^ (n * r.length) * 2 ^ n * dnum n b = 2 ^ n * (2 ^ (n * r.length) * dnum n b) from by rw [Int.mul_comm (2 ^ (n * r.length)) (2 ^ n), Int.mul_assoc]]
    omega
noncomputable def seg (ds : List Int) (lo hi : Nat) : List Int := (ds.drop lo).take (hi - lo)
theorem seg_split (ds : List Int) {lo mid hi : Nat} (h1 : lo ≤ mid) (h2 : mid ≤ hi) : seg ds lo hi = seg ds lo mid ++ seg ds mid hi := by
  unfold seg
  have e : hi - lo = (mid - lo) + (hi - mid) := by omega
  rw [e, List.take_add, List.drop_drop]
  congr 3
  omega
theorem seg_len (ds : List Int) {lo hi : Nat} (h : hi ≤ ds.length) : (seg ds lo hi).length = hi - lo := by
  unfold seg
  rw [List.length_take, List.length_drop]
  omega
theorem seg_one (ds : List Int) {lo : Nat} (h : lo < ds.length) : seg ds lo (lo + 1) = [ds.getD lo 0] := by
  unfold seg
  rw [show lo + 1 - lo = 1 from by omega, List.drop_eq_getElem_cons h, List.take_succ_cons, List.take_zero]
  simp [List.getD_eq_getElem?_getD, h]
theorem dnum_small (n k : Nat) : ∀ (ds : List Int), (∀ d ∈ ds, d.natAbs < 2 ^ k) → (dnum n ds).natAbs < 2 ^ (k + (n + 1) * ds.length)
  | [], _ => by simp [dnum]; exact Nat.two_pow_pos _
  | d :: r, h => by
    have h1 := h d (.head _)
    have h2 := dnum_small n k r fun x hx => h x (.tail _ hx)
    rw [dnum, List.length_cons, Nat.mul_succ]
    have h3 : (d + 2 ^ n * dnum n r).natAbs ≤ d.natAbs + 2 ^ n * (dnum n r).natAbs := by
      refine Nat.le_trans (Int.natAbs_add_le _ _) ?_
      rw [Int.natAbs_mul, Int.natAbs_pow]
      exact Nat.le_refl _
    have h4 : 2 ^ n * (dnum n r).natAbs < 2 ^ n * 2 ^ (k + (n + 1) * r.length) := Nat.mul_lt_mul_of_pos_left h2 (Nat.two_pow_pos _)
    rw [← Nat.pow_add] at h4
    have h5 : 2 ^ k ≤ 2 ^ (n + (k + (n + 1) * r.length)) := Nat.pow_le_pow_right (by decide) (by omega)
    have h6 : 2 ^ (k + ((n + 1) * r.length + (n + 1))) = 2 * 2 ^ (n + (k + (n + 1) * r.length)) := by
      rw [← Nat.pow_succ']
      congr 1
      omega
    omega
theorem dnum_one (n : Nat) {ds : List Int} {lo : Nat} (h : lo < ds.length) : dnum n (seg ds lo (lo + 1)) = ds.getD lo 0 := by rw [seg_one ds h]; simp [dnum]
theorem dnum_join {n : Int} {ds : List Int} {lo mid hi : Nat} (hn : 0 ≤ n) (h1 : lo ≤ mid) (h2 : mid ≤ hi) (h3 : hi ≤ ds.length) {sh : Int} (hsh : sh = ((mid : Int) - lo) * n) :
    dnum n.toNat (seg ds mid hi) * 2 ^ sh.toNat + dnum n.toNat (seg ds lo mid) = dnum n.toNat (seg ds lo hi) := by
  rw [seg_split ds h1 h2, dnum_append, seg_len ds (by omega)]
  have e : sh.toNat = n.toNat * (mid - lo) := by
    have e1 : ((mid : Int) - lo) = ((mid - lo : Nat) : Int) := by omega
    have e2 : n = (n.toNat : Int) := by omega
    rw [hsh, e1, e2, ← Int.natCast_mul, Int.toNat_natCast, Nat.mul_comm, Int.toNat_natCast]
  rw [e, Int.mul_comm, Int.add_comm]
theorem seg_mem {ds : List Int} {lo hi : Nat} {d : Int} (h : d ∈ seg ds lo hi) : d ∈ ds := List.mem_of_mem_drop (List.mem_of_mem_take h)
theorem dnum_seg_small {n : Nat} {ds : List Int} {lo hi : Nat} (hn : n < 5000) (hl : ds.length < 200) (hd : ∀ d ∈ ds, d.natAbs < 2 ^ 5000) : Small (dnum n (seg ds lo hi)) := by
  refine small_pow (dnum_small n 5000 _ fun d hd' => hd d (seg_mem hd')) ?_
  have h1 : (seg ds lo hi).length ≤ 200 := by
    unfold seg
    rw [List.length_take, List.length_drop]
    omega
  have h2 : (n + 1) * (seg ds lo hi).length ≤ 5000 * 200 := Nat.mul_le_mul (by omega) h1
  unfold big
  omega
theorem shift_rng {a n : Int} (ha : 0 ≤ a ∧ a < 200) (hn : 0 < n ∧ n < 5000) : 0 ≤ a * n ∧ a * n ≤ 10000000 := by
  refine ⟨Int.mul_nonneg ha.1 (by omega), ?_⟩
  have := Int.mul_le_mul (a := a) (b := n) (c := 200) (d := 5000) (by omega) (by omega) (by omega) (by omega)
  omega
theorem allNe_lt {d D : Addr} {R : Led} (h : AllLt d R) (hd : @LE.le Nat _ d D) : ∀ p ∈ R, p.1 ≠ D := fun p hp e => by
  have := ktn_ltOf h p hp
  rw [e] at this
  exact absurd this (Nat.not_lt.mpr hd)
theorem with_ledger {h₀ h : Heap} {L : Addr} {news : Led} {G : Prop} (N : News h₀ L h news) (k : ∀ B, B = news → News h₀ L h B → G) : G := k news rfl N
theorem spec_useQ {prog : Program} {w : World} {K : Frag} {p : Program} {loose : List Str} {mean : ExcName → Option Value} {mg mb : Str → Option Value} {dd uu : Nat} {f : Addr} {vs : List Value} {T : Led} {Post : Value → Led → Prop}
    {dp un : Nat} {gd : Option (List Code)} {cn : Str} {cs : Scope} {a : Addr} {ccd : Value} {cl : List (Str × Addr)} {outer : List Env} {A₀ : Around} {base h₀ : Heap} {L : Addr} {m : Str → Option Value} {s : Shared} {Q E : Value → Shared → Prop}
    (S : Spec prog w K p loose mean mg mb dd uu f vs T Post) (B : Below A₀ base outer h₀) (F : Fr h₀ L s.heap m) (X : K.In h₀) (N : News h₀ L s.heap T) (Tp : Top p loose mean mg mb h₀) (hk : cs.kind = .function) (hd : dp + dd < recursionLimit) (hu : un + uu < cLine)
    (k : ∀ Q' : Value → Heap → Nat → Prop, (∀ (r : Value) (h' : Heap) (tk' : Nat), Q r { s with heap := h', toks := tk' } → Q' r h' tk') → ∀ (r : Value) (new : Led) (h' : Heap) (tk' : Nat), Fr h₀ L h' m → News h₀ L h' (new ++ T) → (∀ q ∈ T, ∀ p ∈ new, q.1 < p.1) → Post r new → Q' r h' tk') :
    wpAny (model prog w) (ktrTop dp un gd cn cs L a ccd cl outer) (call (.ref f) vs) Q E s := S _ _ _ _ _ _ _ _ _ _ _ _ _ _ _ _ _ B F X N Tp hk hd hu (k (fun r h' tk' => Q r { s with heap := h', toks := tk' }) fun _ _ _ h => h)
theorem with_call {M : Model} {A : Around} {f : Addr} {vs : List Value} {Q E : Value → Shared → Prop} {s : Shared} (k : ∀ f', f' = f → wpAny M A (call (.ref f') vs) Q E s) : wpAny M A (call (.ref f) vs) Q E s := k f rfl
end Mine
end
section
open PySem PySem.W PyProof.Rows PySem.Calls
set_option maxRecDepth 100000
namespace Mine
noncomputable def SpecT (prog : Program) (w : World) (K : Frag) (p : Program) (loose : List Str) (mean : ExcName → Option Value) (mg mb : Str → Option Value) (dd uu : Nat) (f : Addr) (vs : List Value) (T : Led) (Post : Value → Led → Prop) : Prop :=
  ∀ (dp un : Nat) (gd : Option (List Code)) (cn : Str) (cs : Scope) (a : Addr) (ccd : Value) (cl : List (Str × Addr)) (outer : List Env) (A₀ : Around) (base h₀ : Heap) (L : Addr) (m : Str → Option Value) (s : Shared) (Q E : Value → Shared → Prop),
    Below A₀ base outer h₀ → Fr h₀ L s.heap m → K.In h₀ → News h₀ L s.heap T → Top p loose mean mg mb h₀ → cs.kind = .function → dp + dd < recursionLimit → un + uu < cLine →
    (∀ (r : Value) (T' : Led) (h' : Heap) (tk' : Nat), Fr h₀ L h' m → News h₀ L h' T' → Post r T' → Q r { s with heap := h', toks := tk' }) →
    wpAny (model prog w) (ktrTop dp un gd cn cs L a ccd cl outer) (call (.ref f) vs) Q E s
theorem news_sub {h₀ h : Heap} {L : Addr} {T T' : Led} (N : News h₀ L h T) (k : ∀ p ∈ T', p ∈ T) : News h₀ L h T' := fun p hp => N p (k p hp)
section
variable {prog : Program} {w : World} {K : Frag} {p : Program} {loose : List Str} {mean : ExcName → Option Value} {mg mb : Str → Option Value} {dd uu dd' uu' : Nat} {f : Addr} {vs : List Value} {T T₀ : Led} {Post Post' : Value → Led → Prop}
theorem SpecT.conv (S : SpecT prog w K p loose mean mg mb dd uu f vs T₀ Post) (hs : ∀ q ∈ T₀, q ∈ T) (k : ∀ r T', Post r T' → ∃ T'', (∀ q ∈ T'', q ∈ T') ∧ Post' r T'') : SpecT prog w K p loose mean mg mb dd uu f vs T Post' := by
  intro dp un gd cn cs a ccd cl outer A₀ base h₀ L m s Q E B F X N Tp hk hd hu hret
  refine S dp un gd cn cs a ccd cl outer A₀ base h₀ L m s Q E B F X (news_sub N hs) Tp hk hd hu fun r T' h' tk' F' N' hp => ?_
  obtain ⟨T'', h1, h2⟩ := k r T' hp
  exact hret r T'' h' tk' F' (news_sub N' h1) h2
theorem SpecT.news (k : (∀ h₀ L h, News h₀ L h T → False) ∨ ((∃ h₀ L h, News h₀ L h T) → SpecT prog w K p loose mean mg mb dd uu f vs T Post)) : SpecT prog w K p loose mean mg mb dd uu f vs T Post := by
  rcases k with k | k
  · intro dp un gd cn cs a ccd cl outer A₀ base h₀ L m s Q E B F X N
    exact (k _ _ _ N).elim
  · intro dp un gd cn cs a ccd cl outer A₀ base h₀ L m s Q E B F X N
    exact k ⟨_, _, _, N⟩ dp un gd cn cs a ccd cl outer A₀ base h₀ L m s Q E B F X N
theorem specT_useQ {dp un : Nat} {gd : Option (List Code)} {cn : Str} {cs : Scope} {a : Addr} {ccd : Value} {cl : List (Str × Addr)} {outer : List Env} {A₀ : Around} {base h₀ : Heap} {L : Addr} {m : Str → Option Value} {s : Shared} {Q E : Value → Shared → Prop} {T₁ : Led}
    (S : SpecT prog w K p loose mean mg mb dd uu f vs T Post) (B : Below A₀ base outer h₀) (F : Fr h₀ L s.heap m) (X : K.In h₀) (N : News h₀ L s.heap T₁) (Tp : Top p loose mean mg mb h₀) (hk : cs.kind = .function) (hs : ∀ q ∈ T, q ∈ T₁) (hd : dp + dd < recursionLimit) (hu : un + uu < cLine)
    (k : ∀ Q' : Value → Heap → Nat → Prop, (∀ (r : Value) (h' : Heap) (tk' : Nat), Q r { s with heap := h', toks := tk' } → Q' r h' tk') → ∀ (r : Value) (T' : Led) (h' : Heap) (tk' : Nat), Fr h₀ L h' m → News h₀ L h' T' → Post r T' → Q' r h' tk') :
    wpAny (model prog w) (ktrTop dp un gd cn cs L a ccd cl outer) (call (.ref f) vs) Q E s := S _ _ _ _ _ _ _ _ _ _ _ _ _ _ _ _ _ B F X (news_sub N hs) Tp hk hd hu (k (fun r h' tk' => Q r { s with heap := h', toks := tk' }) fun _ _ _ h => h)
end
noncomputable def Cl (T : Led) : Prop := ∀ p ∈ T, p.2.cls ≠ .none ∨ ∃ v, p.2.data = .cell v
theorem Cl.nil : Cl [] := fun _ h => nomatch h
theorem Cl.cons {a : Addr} {o : Obj} {T : Led} (h : o.cls ≠ .none) (hT : Cl T) : Cl ((a, o) :: T) := fun p hp => by
  rcases List.mem_cons.mp hp with rfl | hp
  · exact .inl h
  · exact hT p hp
theorem Cl.cell {a : Addr} {o : Obj} {T : Led} {v : Option Value} (h : o.data = .cell v) (hT : Cl T) : Cl ((a, o) :: T) := fun p hp => by
  rcases List.mem_cons.mp hp with rfl | hp
  · exact .inr ⟨v, h⟩
  · exact hT p hp
theorem Cl.append {A B : Led} (hA : Cl A) (hB : Cl B) : Cl (A ++ B) := fun p hp => (List.mem_append.mp hp).elim (hA p) (hB p)
noncomputable def TabOk (P : Addr) (li co : Nat) (q : Str) (A : Led) : Prop :=
  A = [(P, tabObj #[])] ∨ ∃ c' oc vs t, A = [(P, tabObj #[rawInt li, rawInt co, .ref c']), (c', oc)] ∧ oc.data = .fields vs ∧ vs[1]? = some (.str q t)
theorem TabOk.head {P : Addr} {li co : Nat} {q : Str} {A : Led} (h : TabOk P li co q A) : ∃ ps, (P, tabObj ps) ∈ A := by
  rcases h with rfl | ⟨c', oc, vs, t, rfl, _, _⟩
  · exact ⟨_, .head _⟩
  · exact ⟨_, .head _⟩
theorem TabOk.apart {h₀ h : Heap} {L P P' : Addr} {li co : Nat} {q : Str} {A : Led} (N : News h₀ L h ((P, tabObj #[]) :: A)) (hA : TabOk P' li co q A) (hP : P' ≠ P) : ∀ p ∈ A, p.1 ≠ P := by
  intro p hp e
  rcases hA with rfl | ⟨c', oc, vs, t, rfl, hd, hv⟩
  · rcases List.mem_singleton.mp hp with rfl
    exact hP e
  · rcases List.mem_cons.mp hp with rfl | hp
    · exact hP e
    · rcases List.mem_singleton.mp hp with rfl
      have h1 := (N _ (.head _)).1
      have h2 := (N (c', oc) (.tail _ (.tail _ (.head _)))).1
      have e' : c' = P := e
      rw [e'] at h2
      rw [h2] at h1
      cases h1
      cases hd
      cases hv
theorem Cl.apart {h₀ h : Heap} {L P : Addr} {ps : Array Value} {R : Led} (N : News h₀ L h ((P, tabObj ps) :: R)) (hR : Cl R) : ∀ p ∈ R, p.1 ≠ P := by
  intro p hp e
  have h1 := (N _ (.head _)).1
  have h2 := (N p (.tail _ hp)).1
  rw [e] at h2
  rw [h2] at h1
  have h3 := Option.some.inj h1
  rcases hR _ hp with h | ⟨v, h⟩
  · exact h (by rw [h3])
  · rw [h3] at h
    cases h
end Mine
namespace Mine
theorem tab_exit {h₀ h' : Heap} {L P c' : Addr} {li co : Nat} {q : Str} {oc : Obj} {vs : Array Value} {t : Tok} {R T1 : Led} (N : News h₀ L h' T1) (m1 : (P, tabObj #[rawInt li, rawInt co, .ref c']) ∈ T1) (m2 : (c', oc) ∈ T1) (hR : ∀ p ∈ R, p ∈ T1)
    (hd : oc.data = .fields vs) (hv : vs[1]? = some (.str q t)) : ∃ A', News h₀ L h' (A' ++ R) ∧ TabOk P li co q A' := by
  refine ⟨[(P, tabObj #[rawInt li, rawInt co, .ref c']), (c', oc)], fun p hp => ?_, .inr ⟨c', oc, vs, t, rfl, hd, hv⟩⟩
  rcases List.mem_append.mp hp with hp | hp
  · rcases List.mem_cons.mp hp with rfl | hp
    · exact N _ m1
    · rcases List.mem_singleton.mp hp with rfl
      exact N _ m2
  · exact N _ (hR _ hp)
theorem seg_all (ds : List Int) : seg ds 0 ds.length = ds := by unfold seg; rw [List.drop_zero, Nat.sub_zero, List.take_length]
end Mine
namespace Mine
theorem tab_in {h₀ h : Heap} {L P P' : Addr} {li co li' co' : Nat} {q q' : Str} {A B R : Led} (N : News h₀ L h (A ++ (B ++ R))) (hA : TabOk P li co q A) (hB : TabOk P' li' co' q' B) (hP : P' ≠ P) (hR : Cl R) :
    (A ++ (B ++ R) = (P, tabObj #[]) :: (B ++ R) ∧ ∀ p ∈ B ++ R, p.1 ≠ P) ∨ ∃ c0 oc0 vs0 t0, A ++ (B ++ R) = (P, tabObj #[rawInt li, rawInt co, .ref c0]) :: (c0, oc0) :: (B ++ R) ∧ oc0.data = .fields vs0 ∧ vs0[1]? = some (.str q t0) := by
  rcases hA with rfl | ⟨c', oc, vs, t, rfl, hd, hv⟩
  · refine .inl ⟨rfl, fun p hp => ?_⟩
    rcases List.mem_append.mp hp with hp | hp
    · exact TabOk.apart (news_sub N fun q hq => by
        rcases List.mem_cons.mp hq with rfl | hq
        · exact .head _
        · exact List.mem_append_right _ (List.mem_append_left _ hq)) hB hP p hp
    · exact Cl.apart (news_sub N fun q hq => by
        rcases List.mem_cons.mp hq with rfl | hq
        · exact .head _
        · exact List.mem_append_right _ (List.mem_append_right _ hq)) hR p hp
  · exact .inr ⟨c', oc, vs, t, rfl, hd, hv⟩
noncomputable def Tabs (P P' : Addr) (Tb : Led) : Prop := ∃ A B, Tb = A ++ B ∧ TabOk P 54 4 (Str.ofString "_digits2int.<locals>.inner") A ∧ TabOk P' 39 4 (Str.ofString "_int2digits.<locals>.inner") B
section
variable {prog : Program} {w : World} {K : Frag} {p : Program} {loose : List Str} {mean : ExcName → Option Value} {mg mb : Str → Option Value} {dd uu dd' uu' : Nat} {f : Addr} {vs : List Value} {R Tb : Led} {Post Post' : Value → Led → Prop}
theorem SpecT.tabA {P P' : Addr} (hT : Tabs P P' Tb) (hC : Cl R) (hP : P' ≠ P) {Good : Value → Prop}
    (S : ∀ T R₀, (∀ q ∈ R, q ∈ R₀) → ((T = (P, tabObj #[]) :: R₀ ∧ ∀ p ∈ R₀, p.1 ≠ P) ∨ ∃ c0 oc0 vs0 t0, T = (P, tabObj #[rawInt 54, rawInt 4, .ref c0]) :: (c0, oc0) :: R₀ ∧ oc0.data = .fields vs0 ∧ vs0[1]? = some (.str (Str.ofString "_digits2int.<locals>.inner") t0)) →
      SpecT prog w K p loose mean mg mb dd uu f vs T (fun v T' => Good v ∧ ∃ A', T' = A' ++ R₀ ∧ TabOk P 54 4 (Str.ofString "_digits2int.<locals>.inner") A')) :
    SpecT prog w K p loose mean mg mb dd uu f vs (R ++ Tb) (fun v T' => Good v ∧ ∃ Tb', T' = R ++ Tb' ∧ Tabs P P' Tb') := by
  obtain ⟨A, B, rfl, hA, hB⟩ := hT
  refine SpecT.news (.inr fun ⟨h₀, L, h, N⟩ => ?_)
  refine (S (A ++ (B ++ R)) (B ++ R) (fun q hq => List.mem_append_right _ hq) (tab_in (news_sub N ?_) hA hB hP hC)).conv ?_ ?_
  · intro q hq
    simp only [List.mem_append] at hq ⊢
    rcases hq with hq | hq | hq <;> simp [hq]
  · intro q hq
    simp only [List.mem_append] at hq ⊢
    rcases hq with hq | hq | hq <;> simp [hq]
  · rintro r T' ⟨hg, A', rfl, hA'⟩
    refine ⟨R ++ (A' ++ B), ?_, hg, _, rfl, A', B, rfl, hA', hB⟩
    intro q hq
    simp only [List.mem_append] at hq ⊢
    rcases hq with hq | hq | hq <;> simp [hq]
theorem SpecT.post (S : SpecT prog w K p loose mean mg mb dd uu f vs R Post) (k : ∀ v T, Post v T → Post' v T) : SpecT prog w K p loose mean mg mb dd uu f vs R Post' :=
  S.conv (fun _ h => h) fun r T' h => ⟨T', fun _ h => h, k r T' h⟩
theorem SpecT.room (S : SpecT prog w K p loose mean mg mb dd uu f vs R Post) (h1 : dd ≤ dd') (h2 : uu ≤ uu') : SpecT prog w K p loose mean mg mb dd' uu' f vs R Post := by
  intro dp un gd cn cs a ccd cl outer A₀ base h₀ L m s Q E B F X N Tp hk hd hu hret
  exact S dp un gd cn cs a ccd cl outer A₀ base h₀ L m s Q E B F X N Tp hk (by omega) (by omega) hret
end
end Mine
end
section
open PySem PySem.W PyProof.Rows PySem.Calls
set_option maxRecDepth 100000
set_option exponentiation.threshold 6000
namespace Mine
noncomputable def digs (n : Nat) : Nat → Int → List Int
  | 0, _ => []
  | k + 1, x => x % 2 ^ n :: digs n k (x / 2 ^ n)
theorem digs_len (n : Nat) : ∀ (k : Nat) (x : Int), (digs n k x).length = k
  | 0, _ => rfl
  | k + 1, x => by rw [digs, List.length_cons, digs_len n k]
theorem emod_emod_pow {x : Int} {n m : Nat} (h : n ≤ m) : (x % 2 ^ m) % 2 ^ n = x % 2 ^ n := Int.emod_emod_of_dvd x ⟨2 ^ (m - n), by rw [← Int.pow_add]; congr 1; omega⟩
theorem div_pow_mod {x : Int} {n m : Nat} : (x % 2 ^ (n + m)) / 2 ^ n = (x / 2 ^ n) % 2 ^ m := by
  have h : (2 : Int) ^ (n + m) = 2 ^ n * 2 ^ m := Int.pow_add ..
  have hp : (0 : Int) < 2 ^ n := Int.pow_pos (by decide)
  rw [h]
  generalize hP : (2 : Int) ^ n = P at *
  generalize (2 : Int) ^ m = Q at *
  rw [Int.emod_def, Int.emod_def, ← Int.ediv_ediv_of_nonneg (Int.le_of_lt hp), show x - P * Q * (x / P / Q) = x + P * (-(Q * (x / P / Q))) from by rw [Int.mul_neg, Int.mul_assoc]; omega, Int.add_mul_ediv_left _ _ (Int.ne_of_gt hp)]
  omega
theorem digs_append (n : Nat) : ∀ (a b : Nat) (x : Int), digs n (a + b) x = digs n a (x % 2 ^ (n * a)) ++ digs n b (x / 2 ^ (n * a))
  | 0, b, x => by
    rw [Nat.zero_add, Nat.mul_zero, Int.pow_zero, Int.ediv_one]
    rfl
  | a + 1, b, x => by
    have e : a + 1 + b = (a + b) + 1 := by omega
    rw [e, digs, digs, digs_append n a b, List.cons_append]
    have h1 : (x % 2 ^ (n * (a + 1))) % 2 ^ n = x % 2 ^ n := emod_emod_pow (by rw [Nat.mul_succ]; omega)
    have h2 : (x % 2 ^ (n * (a + 1))) / 2 ^ n = (x / 2 ^ n) % 2 ^ (n * a) := by
      rw [show n * (a + 1) = n + n * a from by rw [Nat.mul_succ, Nat.add_comm]]
      exact div_pow_mod
    have h3 : x / 2 ^ n / 2 ^ (n * a) = x / 2 ^ (n * (a + 1)) := by
      rw [Int.ediv_ediv_of_nonneg (Int.pow_nonneg (by decide)), ← Int.pow_add]
      congr 2
      rw [Nat.mul_succ]; omega
    rw [h1, h2, h3]
theorem digs_one {n : Nat} {x : Int} (h0 : 0 ≤ x) (h1 : x < 2 ^ n) : digs n 1 x = [x] := by
  rw [digs, digs, Int.emod_eq_of_lt h0 h1]
theorem digs_rng {n : Nat} : ∀ (k : Nat) (x : Int), ∀ d ∈ digs n k x, 0 ≤ d ∧ d < 2 ^ n
  | 0, _, _, h => nomatch h
  | k + 1, x, d, h => by
    have hp : (0 : Int) < 2 ^ n := Int.pow_pos (by decide)
    rw [digs] at h
    rcases List.mem_cons.mp h with rfl | h
    · exact ⟨Int.emod_nonneg _ (Int.ne_of_gt hp), Int.emod_lt_of_pos _ hp⟩
    · exact digs_rng k _ d h
theorem and_high (x s : Nat) : x &&& (x / 2 ^ s * 2 ^ s) = x / 2 ^ s * 2 ^ s := by
  apply Nat.eq_of_testBit_eq
  intro i
  rw [Nat.testBit_and, ← Nat.shiftLeft_eq, ← Nat.shiftRight_eq_div_pow, Nat.testBit_shiftLeft, Nat.testBit_shiftRight]
  by_cases h : s ≤ i
  · have e : s + (i - s) = i := by omega
    rw [e]
    cases x.testBit i <;> simp
  · simp [h]
theorem xor_low {x : Int} {s : Nat} (h0 : 0 ≤ x) : Builtin.bitXor x (x / 2 ^ s * 2 ^ s) = x % 2 ^ s := by
  obtain ⟨a, rfl⟩ := Int.eq_ofNat_of_zero_le h0
  have e : ((a : Int) / 2 ^ s * 2 ^ s) = ((a / 2 ^ s * 2 ^ s : Nat) : Int) := by
    rw [Int.natCast_mul, Int.natCast_ediv, Int.natCast_pow]; rfl
  have hand : Builtin.bitAnd (a : Int) ((a : Int) / 2 ^ s * 2 ^ s) = (a : Int) / 2 ^ s * 2 ^ s := by
    rw [e]
    have h1 : decide (0 ≤ (a : Int)) = true := by simp
    have h2 : decide (0 ≤ ((a / 2 ^ s * 2 ^ s : Nat) : Int)) = true := decide_eq_true (Int.natCast_nonneg _)
    unfold Builtin.bitAnd
    rw [h1, h2]
    show (((a : Int).toNat &&& ((a / 2 ^ s * 2 ^ s : Nat) : Int).toNat : Nat) : Int) = _
    rw [Int.toNat_natCast, Int.toNat_natCast, and_high]
  rw [bitXor_and, hand]
  have := Int.mul_ediv_add_emod (a : Int) (2 ^ s)
  rw [Int.mul_comm] at this
  omega
theorem ints_rep0 (a : Int) (t : Tok) : ∀ k, IntsAre (List.replicate k (.int a t)) (List.replicate k a)
  | 0 => .nil
  | k + 1 => .cons a t (ints_rep0 a t k)
section
variable {prog : Program} {w : World} {A : Around} {E : Value → Shared → Prop} {s : Shared} {h₀ : Heap} {L D : Addr} {m : Str → Option Value} {news news' : Led} {n : Nat} {k : Int} {u : Tok} {v : Value} {vs : List Value}
theorem set_lK {Q : Unit → Shared → Prop} (F : Fr h₀ L s.heap m) (N : News h₀ L s.heap news) (U : Upd D (listOf vs.toArray n) (listOf (vs.set k.toNat v).toArray n) news news') (hk : 0 ≤ k ∧ k < vs.length ∧ vs.length < 1000000)
    (h : ∀ h', Fr h₀ L h' m → News h₀ L h' news' → Q () { s with heap := h' }) : wpAny (model prog w) A (setItem (.ref D) (.int k u) v) Q E s := by
  refine Classical.byContradiction fun hG' => ?_
  obtain ⟨pre, post, rfl, rfl, a, b⟩ := U.split
  refine hG' ?_
  clear hG'
  have z := N (D, listOf vs.toArray n) (List.mem_append.mpr (.inr (.head _)))
  have hs : vs.toArray.size = vs.length := List.size_toArray ..
  refine ki_setAt z.1 hk.1 (by omega) (by omega) (h _ (F.change (Heap.SameBut.update ..) z.2.1 z.2.2) (ki_turn _ N a b ?_ ?_))
  · show vs.toArray.setIfInBounds k.toNat v = (vs.set k.toNat v).toArray
    simp
  · simp
theorem rep_K {l : Addr} {a : Int} {x : Int} {u t : Tok} {j : Nat} {Q : Value → Shared → Prop} (Fm : Fr h₀ L s.heap m) (N : News h₀ L s.heap news) (hl : (l, listOf #[.int a t] j) ∈ news) (hx : 0 ≤ x ∧ x < 1000000)
    (h : ∀ D h' vs0, Fr h₀ L h' m → News h₀ L h' ((D, listOf vs0.toArray 0) :: news) → (∀ p ∈ news, p.1 < D) → IntsAre vs0 (List.replicate x.toNat a) → vs0.length = x.toNat → Q (.ref D) { s with heap := h' }) : wpAny (model prog w) A (binaryOp .Mult (.ref l) (.int x u)) Q E s := by
  refine KM.mul (vs := [.int a t]) (ns := [a]) Fm N (PySem.IsL.isList (n := j) (N _ hl).1) (IntsAre.cons a t IntsAre.nil) (by omega) (by omega) (by simp only [List.length_cons, List.length_nil]; omega) fun D h' F' N' hl' _ _ _ _ _ _ => ?_
  rw [List.flatten_replicate_singleton] at N'
  exact h D h' _ F' N' hl' (ints_rep0 a t _) List.length_replicate
end
noncomputable def figs (n : Nat) (a : Int) : Nat := (Builtin.Int.intBits a + n - 1) / n
theorem figs_big {n : Nat} {a : Int} (hn : 0 < n) (h0 : 0 ≤ a) : a < 2 ^ (n * figs n a) := by
  have h1 : a.natAbs < 2 ^ Builtin.Int.intBits a := PySem.intBits_le_iff.mp (Nat.le_refl _)
  have h2 : Builtin.Int.intBits a ≤ n * figs n a := by
    unfold figs
    have := Nat.mod_add_div (Builtin.Int.intBits a + n - 1) n
    have := Nat.mod_lt (Builtin.Int.intBits a + n - 1) hn
    omega
  have h3 : a.natAbs < 2 ^ (n * figs n a) := Nat.lt_of_lt_of_le h1 (Nat.pow_le_pow_right (by decide) h2)
  have h4 : ((a.natAbs : Nat) : Int) < ((2 ^ (n * figs n a) : Nat) : Int) := Int.ofNat_lt.mpr h3
  rw [Int.natCast_pow] at h4
  have h5 : ((2 : Nat) : Int) = 2 := rfl
  rw [h5] at h4
  omega
end Mine
namespace Mine
theorem sh_nat {n : Int} {lo mid : Nat} (hn : 0 ≤ n) (h1 : lo ≤ mid) : (((mid : Int) - lo) * n).toNat = n.toNat * (mid - lo) := by
  have e1 : ((mid : Int) - lo) = ((mid - lo : Nat) : Int) := by omega
  have e2 : n = (n.toNat : Int) := by omega
  rw [e1, e2, ← Int.natCast_mul, Int.toNat_natCast, Nat.mul_comm, Int.toNat_natCast]
theorem lo_rng {x : Int} {k : Nat} : 0 ≤ x % 2 ^ k ∧ x % 2 ^ k < 2 ^ k :=
  ⟨Int.emod_nonneg _ (Int.ne_of_gt (Int.pow_pos (by decide))), Int.emod_lt_of_pos _ (Int.pow_pos (by decide))⟩
theorem hi_rng {x : Int} {n lo mid hi : Nat} (h1 : lo ≤ mid) (h2 : mid ≤ hi) (h : 0 ≤ x ∧ x < 2 ^ (n * (hi - lo))) : 0 ≤ x / 2 ^ (n * (mid - lo)) ∧ x / 2 ^ (n * (mid - lo)) < 2 ^ (n * (hi - mid)) := by
  refine ⟨Int.ediv_nonneg h.1 (Int.pow_nonneg (by decide)), Int.ediv_lt_of_lt_mul (Int.pow_pos (by decide)) ?_⟩
  rw [← Int.pow_add, ← Nat.mul_add, show hi - mid + (mid - lo) = hi - lo from by omega]
  exact h.2
theorem digs_join {x : Int} {n lo mid hi : Nat} (h1 : lo ≤ mid) (h2 : mid ≤ hi) : digs n (mid - lo) (x % 2 ^ (n * (mid - lo))) ++ digs n (hi - mid) (x / 2 ^ (n * (mid - lo))) = digs n (hi - lo) x := by
  rw [← digs_append, show mid - lo + (hi - mid) = hi - lo from by omega]
theorem put_join {vl ws1 ws2 : List Value} {lo mid hi : Nat} (h1 : lo ≤ mid) (h2 : mid ≤ hi) (h3 : hi ≤ vl.length) (hw : ws1.length = mid - lo) :
    (vl.take lo ++ ws1 ++ vl.drop mid).take mid ++ ws2 ++ (vl.take lo ++ ws1 ++ vl.drop mid).drop hi = vl.take lo ++ (ws1 ++ ws2) ++ vl.drop hi := by
  have e : (vl.take lo ++ ws1).length = mid := by rw [List.length_append, List.length_take, hw]; omega
  rw [List.take_append_of_le_length (by omega), List.take_of_length_le (by omega), List.drop_append, e, List.drop_drop, List.drop_of_length_le (by omega), List.nil_append, show mid + (hi - mid) = hi from by omega]
  simp only [List.append_assoc]
theorem put_len {vl ws : List Value} {lo hi : Nat} (h1 : lo ≤ hi) (h3 : hi ≤ vl.length) (hw : ws.length = hi - lo) : (vl.take lo ++ ws ++ vl.drop hi).length = vl.length := by
  rw [List.length_append, List.length_append, List.length_take, List.length_drop, hw]; omega
theorem put_one {vl : List Value} {lo : Nat} {v : Value} (h : lo < vl.length) : vl.set lo v = vl.take lo ++ [v] ++ vl.drop (lo + 1) := by
  rw [List.set_eq_take_append_cons_drop, if_pos h, List.append_assoc]; rfl
inductive Pull (d : Addr) (o : Obj) : Led → Led → Prop
  | head {r} : (∀ p ∈ r, p.1 ≠ d) → Pull d o ((d, o) :: r) r
  | tail {p r r'} : p.1 ≠ d → Pull d o r r' → Pull d o (p :: r) (p :: r')
theorem Pull.sub {d : Addr} {o : Obj} : ∀ {l r : Led}, Pull d o l r → ∀ p ∈ (d, o) :: r, p ∈ l
  | _, _, .head h => fun p hp => hp
  | _, _, .tail h r => fun p hp => by
    rcases List.mem_cons.mp hp with rfl | hp
    · exact .tail _ (r.sub _ (.head _))
    · rcases List.mem_cons.mp hp with rfl | hp
      · exact .head _
      · exact .tail _ (r.sub _ (.tail _ hp))
theorem figs_fdiv {n a : Int} (hn : 0 < n) : ((Builtin.Int.intBits a : Int) + n - 1).fdiv n = figs n.toNat a := by
  unfold figs
  rw [Int.fdiv_eq_ediv_of_nonneg _ (by omega)]
  have e : (Builtin.Int.intBits a : Int) + n - 1 = ((Builtin.Int.intBits a + n.toNat - 1 : Nat) : Int) := by omega
  have e2 : n = (n.toNat : Int) := by omega
  rw [e]
  conv => lhs; rw [e2]
  exact (Int.natCast_ediv _ _).symm
theorem figs_small {n : Nat} {a : Int} {m : Nat} (hn : 0 < n) (h : a.natAbs < 2 ^ (n * m)) : figs n a ≤ m := by
  have h1 : Builtin.Int.intBits a ≤ n * m := PySem.intBits_le_iff.mpr h
  unfold figs
  rw [← Nat.lt_succ_iff, Nat.div_lt_iff_lt_mul hn, Nat.succ_mul, Nat.mul_comm m n]
  omega
end Mine
namespace Mine
theorem with_mem {h₀ h : Heap} {L d : Addr} {vs : List Value} {news : Led} {G : Prop} (_ : News h₀ L h news) (_ : (d, listOf vs.toArray 0) ∈ news) (k : ∀ d' vs', d' = d → vs' = vs → G) : G := k d vs rfl rfl
end Mine
namespace Mine
theorem with_upd {h₀ h : Heap} {L d : Addr} {o o' : Obj} {news news' : Led} {G : Prop} (N : News h₀ L h news) (U : Upd d o o' news news') (k : ∀ B R', B = news → (∀ p ∈ R', p.1 ≠ d) → (∀ q ∈ B, q.1 ≠ d → q ∈ R') → News h₀ L h ((d, o) :: R') → G) : G := by
  refine Classical.byContradiction fun hG' => ?_
  obtain ⟨pre, post, e1, _, h1, h2⟩ := U.split
  refine hG' ?_
  clear hG'
  refine k news (pre ++ post) rfl (fun p hp => (List.mem_append.mp hp).elim (h1 p) (h2 p)) (fun q hq hn => ?_) (news_sub N fun q hq => ?_)
  · rw [e1] at hq
    rcases List.mem_append.mp hq with hq | hq
    · exact List.mem_append_left _ hq
    · rcases List.mem_cons.mp hq with rfl | hq
      · exact absurd rfl hn
      · exact List.mem_append_right _ hq
  · rw [e1]
    rcases List.mem_cons.mp hq with rfl | hq
    · exact List.mem_append_right _ (.head _)
    · rcases List.mem_append.mp hq with hq | hq
      · exact List.mem_append_left _ hq
      · exact List.mem_append_right _ (.tail _ hq)
end Mine
namespace Mine
theorem digs_small {x n : Int} {k lo hi : Nat} (hn : 0 < n ∧ n < 5000) (hx : 0 ≤ x ∧ x < 2 ^ (n.toNat * (hi - lo))) (h5 : hi - lo < 200) : Small (x / 2 ^ k) := by
  have h0 : 0 ≤ x / 2 ^ k := Int.ediv_nonneg hx.1 (Int.pow_nonneg (by decide))
  have h1 : x / 2 ^ k ≤ x := Int.ediv_le_self _ hx.1
  refine small_pow (k := n.toNat * (hi - lo)) ?_ ?_
  · have h2 : x.natAbs < 2 ^ (n.toNat * (hi - lo)) := by
      have h3 : ((x.natAbs : Nat) : Int) < ((2 ^ (n.toNat * (hi - lo)) : Nat) : Int) := by
        rw [Int.natCast_pow, Int.natAbs_of_nonneg hx.1]
        exact hx.2
      exact Int.ofNat_lt.mp h3
    omega
  · have h3 : n.toNat * (hi - lo) ≤ 5000 * 200 := Nat.mul_le_mul (by omega) (by omega)
    unfold big
    omega
end Mine
namespace Mine
theorem allLt_neOf {d : Addr} {R : Led} (h : AllLt d R) : ∀ p ∈ R, p.1 ≠ d := fun p hp => Nat.ne_of_lt (ktn_ltOf h p hp)
theorem figs_zero {n : Nat} (hn : 0 < n) : figs n 0 = 0 := by
  unfold figs
  rw [show Builtin.Int.intBits 0 = 0 from rfl, Nat.zero_add]
  exact Nat.div_eq_of_lt (by omega)
theorem figs_pos {n : Nat} {a : Int} (hn : 0 < n) (ha : a ≠ 0) : 0 < figs n a := by
  unfold figs
  have h : 0 < Builtin.Int.intBits a := by
    unfold Builtin.Int.intBits
    rw [if_neg (by simpa using ha)]
    omega
  exact Nat.div_pos (by omega) hn
end Mine
namespace Mine
theorem allLt_le {d D : Addr} {R : Led} (h : AllLt d R) (hd : @LE.le Nat _ d D) : ∀ p ∈ R, p.1 < D := fun p hp => Nat.lt_of_lt_of_le (ktn_ltOf h p hp) hd
end Mine
namespace Mine
section
variable {prog : Program} {w : World} {K : Frag} {p : Program} {loose : List Str} {mean : ExcName → Option Value} {mg mb : Str → Option Value} {dd uu dd' uu' : Nat} {f : Addr} {vs : List Value} {R Tb : Led} {ds : List Int}
theorem SpecT.tabB {P P' : Addr} (hT : Tabs P P' Tb) (hC : Cl R) (hP : P ≠ P')
    (S : ∀ T R₀, (∀ q ∈ R, q ∈ R₀) → ((T = (P', tabObj #[]) :: R₀ ∧ ∀ p ∈ R₀, p.1 ≠ P') ∨ ∃ c0 oc0 vs0 t0, T = (P', tabObj #[rawInt 39, rawInt 4, .ref c0]) :: (c0, oc0) :: R₀ ∧ oc0.data = .fields vs0 ∧ vs0[1]? = some (.str (Str.ofString "_int2digits.<locals>.inner") t0)) →
      SpecT prog w K p loose mean mg mb dd uu f vs T (fun v T' => ∃ D vs A', v = .ref D ∧ IntsAre vs ds ∧ T' = A' ++ ((D, listOf vs.toArray 0) :: R₀) ∧ TabOk P' 39 4 (Str.ofString "_int2digits.<locals>.inner") A' ∧ ∀ q ∈ R₀, q.1 < D)) :
    SpecT prog w K p loose mean mg mb dd uu f vs (R ++ Tb) (fun v T' => ∃ D vs, v = .ref D ∧ IntsAre vs ds ∧ (∀ q ∈ R, q.1 < D) ∧ ∃ Tb', T' = (D, listOf vs.toArray 0) :: (R ++ Tb') ∧ Tabs P P' Tb') := by
  refine Classical.byContradiction fun hG' => ?_
  obtain ⟨A, B, rfl, hA, hB⟩ := hT
  refine hG' ?_
  clear hG'
  refine SpecT.news (.inr fun ⟨h₀, L, h, N⟩ => ?_)
  refine (S (B ++ (A ++ R)) (A ++ R) (fun q hq => List.mem_append_right _ hq) (tab_in (news_sub N ?_) hB hA hP hC)).conv ?_ ?_
  · intro q hq
    simp only [List.mem_append] at hq ⊢
    rcases hq with hq | hq | hq <;> simp [hq]
  · intro q hq
    simp only [List.mem_append] at hq ⊢
    rcases hq with hq | hq | hq <;> simp [hq]
  · intro r T' hp'1
    refine Classical.byContradiction fun hG' => ?_
    obtain ⟨D, ws, B', rfl, hi, rfl, hB', hl⟩ := hp'1
    refine hG' ?_
    clear hG'
    refine ⟨(D, listOf ws.toArray 0) :: (R ++ (A ++ B')), ?_, D, ws, rfl, hi, fun q hq => hl q (List.mem_append_right _ hq), _, rfl, A, B', rfl, hA, hB'⟩
    intro q hq
    simp only [List.mem_append, List.mem_cons] at hq ⊢
    rcases hq with hq | hq | hq | hq <;> simp [hq]
end
end Mine
namespace Mine
section
variable {prog : Program} {w : World} {A : Around} {E : Value → Shared → Prop} {s : Shared} {h₀ : Heap} {L : Addr} {m : Str → Option Value} {news : Led} {a b : Int} {t u : Tok}
theorem noPyl {b : Int} (hb : b.natAbs < 2 ^ 5000) : Builtin.divisionGoesByPylong a b = false := by
  refine PyProof.noPylong_of_log2 ?_
  by_cases h0 : b.natAbs = 0
  · rw [h0]; decide
  · have := (Nat.log2_lt h0).mpr hb
    omega
theorem divmod_K {Q : Value → Shared → Prop} (F : Fr h₀ L s.heap m) (N : News h₀ L s.heap news) (hb : 0 < b) (hs : b.natAbs < 2 ^ 5000)
    (h : ∀ D h' t1 t2 tk, Fr h₀ L h' m → News h₀ L h' ((D, tupObj [.int (a / b) t1, .int (a % b) t2]) :: news) → (∀ p ∈ news, p.1 < D) → Q (.ref D) { s with heap := h', toks := tk }) :
    wpAny (model prog w) A (call (.builtin "divmod") [.int a t, .int b u]) Q E s := by
  refine divmod_N F N (by omega) (fun h' F' N' => ?_) (.inl (noPyl hs))
  rw [Int.fdiv_eq_ediv_of_nonneg _ (by omega), Int.fmod_eq_emod_of_nonneg _ (by omega)] at N'
  exact h _ h' _ _ _ F' N' fun p hp => Heap.lt_size (N p hp).1
end
end Mine
end
section
open PySem PySem.W PyProof.Rows PySem.Calls
set_option maxRecDepth 100000
set_option exponentiation.threshold 6000
namespace Mine
theorem offI_of {I : Addr} {it : Obj} : ∀ {l : Led}, (∀ p ∈ l, p.1 ≠ I) → OffI I it l
  | [], _ => trivial
  | p :: r, h => ⟨.inl (h p (.head _)), offI_of fun q hq => h q (.tail _ hq)⟩
section
variable {prog : Program} {w : World} {A : Around} {E : Value → Shared → Prop} {s : Shared} {env : Env} {h₀ : Heap} {x : Str} {body : List Stmt} {Q : Flow → Shared → Prop}
theorem TurnJ.imp {L I : Addr} {it : Obj} {J J' : (Str → Option Value) → Led → Prop} {s₁ s₂ : Shared} {f : Flow} (h : TurnJ h₀ L I it J s₁ Q f s₂) (k : ∀ m led, (∀ p ∈ led, p.1 ≠ I) → J m led → J' m led) : TurnJ h₀ L I it J' s₁ Q f s₂ := by
  cases f with
  | ret v => exact h
  | brk => exact h
  | next => obtain ⟨h', tk, m', n', e, F, N, o, j⟩ := h; exact ⟨h', tk, m', n', e, F, N, o, k _ _ o j⟩
  | cont => obtain ⟨h', tk, m', n', e, F, N, o, j⟩ := h; exact ⟨h', tk, m', n', e, F, N, o, k _ _ o j⟩
theorem TurnJ.unr {L I : Addr} {it : Obj} {J : (Str → Option Value) → Led → Prop} {s₁ s₂ : Shared} {f : Flow} (h : TurnJ h₀ L I it J s₁ Q f s₂) : UnrPost h₀ L s₁ I it J Q f s₂ := by
  cases f <;> exact h
theorem iter_revJ {I l : Addr} {vs : List Value} {k : Nat} {m₀ : Str → Option Value} {news : Led} (J : List Value → (Str → Option Value) → Led → Prop)
    (hh : A.handled = none) (F : Fr h₀ env.locals s.heap m₀) (N : News h₀ env.locals s.heap ((I, revObj l ((vs.length : Int) - 1)) :: news)) (hI : ∀ p ∈ news, p.1 ≠ I) (hl : (l, listOf vs.toArray k) ∈ news)
    (hfix : ∀ r m led, J r m led → (l, listOf vs.toArray k) ∈ led) (hj : J vs.reverse m₀ news)
    (turn : ∀ v r m₁ news₁ h tk it, J (v :: r) m₁ news₁ → (∀ p ∈ news₁, p.1 ≠ I) → it.cls = .type "list_reverseiterator" → Fr h₀ env.locals h (fun y => if y = x then some v else m₁ y) → News h₀ env.locals h ((I, it) :: news₁) →
      wpAny (model prog w) A (execs body env) (TurnJ h₀ env.locals I it (J r) { s with heap := h, toks := tk } Q) E { s with heap := h, toks := tk })
    (done : ∀ m₁ news₁ h tk, J [] m₁ news₁ → Fr h₀ env.locals h m₁ → News h₀ env.locals h news₁ → Q .next { s with heap := h, toks := tk }) :
    wpAny (model prog w) A (pyIter (.ref I)) (fun it s₂ => LoopAtV prog w A h₀ env x body Q E it s₂) E s := by
  have key : ∀ (rest : List Value) (m : Str → Option Value) (led : Led), J rest m led → (∀ p ∈ led, p.1 ≠ I) → RevRest prog w A E h₀ env x body Q s I (l, listOf vs.toArray k) rest m led := by
    intro rest
    induction rest with
    | nil => intro m led hj _ h tk F' N'; exact done m led h tk hj F' N'
    | cons v r ih =>
      intro m led hj ho it h tk hic F' N'
      refine wpAny_mono (turn v r m led h tk it hj ho hic F' N') (fun f s₂ p => ?_) fun _ _ e => e
      exact (p.imp fun m' led' ho' hj' => ⟨hfix _ _ _ hj', ih m' led' hj' ho'⟩).unr
  exact iter_revUnr (lo := listOf vs.toArray k) hh F N (offI_of hI) hl rfl rfl (key _ _ _ hj hI)
end
theorem map_one {stored : List Str} {a : Str} {v : Value} {m m₀ : Str → Option Value} (hv : m a = some v) (h : ∀ y, stored.contains y = false → m y = m₀ y) :
    m = fun y => if y = a then some v else mapD stored m m₀ y := by
  funext y
  by_cases e : y = a
  · rw [if_pos e, e]; exact hv
  · rw [if_neg e]; exact congrFun (mapD_of h) y
noncomputable def ldiv (n : Nat) (y : Int) : List Int → List Int × Int
  | [] => ([], 0)
  | d :: r => (((ldiv n y r).2 * 2 ^ n + d) / y :: (ldiv n y r).1, ((ldiv n y r).2 * 2 ^ n + d) % y)
theorem ldiv_rem {n : Nat} {y : Int} (hy : 0 < y) : ∀ ds, 0 ≤ (ldiv n y ds).2 ∧ (ldiv n y ds).2 < y
  | [] => ⟨Int.le_refl _, hy⟩
  | _ :: _ => ⟨Int.emod_nonneg _ (Int.ne_of_gt hy), Int.emod_lt_of_pos _ hy⟩
theorem ldiv_len {n : Nat} {y : Int} : ∀ ds, (ldiv n y ds).1.length = ds.length
  | [] => rfl
  | _ :: r => by rw [ldiv, List.length_cons, List.length_cons, ldiv_len r]
theorem ldiv_rng {n : Nat} {y : Int} (hy : 0 < y) : ∀ ds, (∀ d ∈ ds, 0 ≤ d ∧ d < 2 ^ n) → ∀ q ∈ (ldiv n y ds).1, 0 ≤ q ∧ q < 2 ^ n
  | [], _, _, h => nomatch h
  | d :: r, hd, q, h => by
    rw [ldiv] at h
    have hr := ldiv_rem (n := n) hy r
    have h1 := hd d (.head _)
    rcases List.mem_cons.mp h with rfl | h
    · refine ⟨Int.ediv_nonneg ?_ (Int.le_of_lt hy), Int.ediv_lt_of_lt_mul hy ?_⟩
      · have := Int.mul_nonneg hr.1 (show (0 : Int) ≤ 2 ^ n from Int.pow_nonneg (by decide))
        omega
      · have h2 : ((ldiv n y r).2 + 1) * 2 ^ n ≤ y * 2 ^ n := Int.mul_le_mul_of_nonneg_right (by omega) (Int.pow_nonneg (by decide))
        rw [Int.add_mul, Int.one_mul, Int.mul_comm y] at h2
        omega
    · exact ldiv_rng hy r (fun x hx => hd x (.tail _ hx)) q h
theorem ldiv_val {n : Nat} {y : Int} (hy : 0 < y) : ∀ ds, dnum n (ldiv n y ds).1 = dnum n ds / y ∧ (ldiv n y ds).2 = dnum n ds % y
  | [] => ⟨(Int.zero_ediv _).symm, (Int.zero_emod _).symm⟩
  | d :: r => by
    obtain ⟨h1, h2⟩ := ldiv_val hy r
    have h3 := Int.mul_ediv_add_emod (dnum n r) y
    have e : d + 2 ^ n * dnum n r = ((dnum n r % y) * 2 ^ n + d) + y * (2 ^ n * (dnum n r / y)) := by
      conv => lhs; rw [← h3]
      rw [Int.mul_add, Int.mul_left_comm, Int.mul_comm (2 ^ n) (dnum n r % y)]
      omega
    rw [ldiv, dnum, dnum, h1, h2, e, Int.add_mul_ediv_left _ _ (Int.ne_of_gt hy), Int.add_mul_emod_self_left]
    exact ⟨rfl, rfl⟩
theorem dnum_digs {n : Nat} : ∀ (k : Nat) (x : Int), 0 ≤ x ∧ x < 2 ^ (n * k) → dnum n (digs n k x) = x
  | 0, x, h => by
    rw [Nat.mul_zero, Int.pow_zero] at h
    rw [digs, dnum]
    omega
  | k + 1, x, h => by
    have hp : (0 : Int) < 2 ^ n := Int.pow_pos (by decide)
    rw [digs, dnum, dnum_digs k (x / 2 ^ n) ⟨Int.ediv_nonneg h.1 (Int.le_of_lt hp), Int.ediv_lt_of_lt_mul hp (by rw [← Int.pow_add, show n * k + n = n * (k + 1) from by rw [Nat.mul_succ]]; exact h.2)⟩]
    have := Int.mul_ediv_add_emod x (2 ^ n)
    omega
theorem ints_rev {vs : List Value} {ds : List Int} (h : IntsAre vs ds) : IntsAre vs.reverse ds.reverse := by
  induction h with
  | nil => exact IntsAre.nil
  | cons d t _ ih => rw [List.reverse_cons, List.reverse_cons]; exact ih.append (IntsAre.cons d t IntsAre.nil)
end Mine
namespace Mine
theorem with_fr {h₀ h : Heap} {L : Addr} {m : Str → Option Value} {G : Prop} (F : Fr h₀ L h m) (k : ∀ m', m' = m → Fr h₀ L h m' → G) : G := k m rfl F
theorem with_obj {h₀ h : Heap} {L d : Addr} {news : Led} {G : Prop} (o : Obj) (_ : News h₀ L h news) (_ : (d, o) ∈ news) (k : ∀ d', d' = d → G) : G := k d rfl
end Mine
namespace Mine
theorem ints_snoc {a : List Value} {v : Value} {ds : List Int} (h : IntsAre (a ++ [v]) ds) : ∃ d t ds', v = .int d t ∧ ds = ds' ++ [d] ∧ IntsAre a ds' := by
  induction a generalizing ds with
  | nil =>
    cases h with
    | cons n t h => cases h; exact ⟨n, t, [], rfl, rfl, IntsAre.nil⟩
  | cons x a ih =>
    cases h with
    | cons n t h =>
      obtain ⟨d, t', ds', h1, h2, h3⟩ := ih h
      exact ⟨d, t', n :: ds', h1, by rw [h2]; rfl, IntsAre.cons n t h3⟩
theorem bits_lt {y : Int} (hy : 0 < y) : y < 2 ^ Builtin.Int.intBits y := by
  have h1 : y.natAbs < 2 ^ Builtin.Int.intBits y := PySem.intBits_le_iff.mp (Nat.le_refl _)
  have h4 : ((y.natAbs : Nat) : Int) < ((2 ^ Builtin.Int.intBits y : Nat) : Int) := Int.ofNat_lt.mpr h1
  rw [Int.natCast_pow] at h4
  have h5 : ((2 : Nat) : Int) = 2 := rfl
  rw [h5] at h4
  omega
theorem natAbs_lt_pow {x : Int} {k : Nat} (h0 : 0 ≤ x) (h : x < 2 ^ k) : x.natAbs < 2 ^ k := by
  have h3 : ((x.natAbs : Nat) : Int) < ((2 ^ k : Nat) : Int) := by
    rw [Int.natCast_pow, Int.natAbs_of_nonneg h0]
    exact h
  exact Int.ofNat_lt.mp h3
theorem step_bits {rv d : Int} {n : Nat} (hn : n ≤ 2000) (hr : 0 ≤ rv ∧ rv < 2 ^ n) (hd : 0 ≤ d ∧ d < 2 ^ n) : ((Builtin.Int.intBits (rv * 2 ^ n + d) : Nat) : Int) - n ≤ 4000 := by
  have h1 := Int.mul_nonneg hr.1 (show (0 : Int) ≤ 2 ^ n from Int.pow_nonneg (by decide))
  have h2 : (rv + 1) * 2 ^ n ≤ 2 ^ n * 2 ^ n := Int.mul_le_mul_of_nonneg_right (by omega) (Int.pow_nonneg (by decide))
  rw [Int.add_mul, Int.one_mul, ← Int.pow_add] at h2
  have h3 := PySem.intBits_le_iff.mpr (natAbs_lt_pow (x := rv * 2 ^ n + d) (k := n + n) (by omega) (by omega))
  omega
end Mine
namespace Mine
section
variable {prog : Program} {w : World} {A : Around} {E : Value → Shared → Prop} {s : Shared} {h₀ : Heap} {L D : Addr} {m : Str → Option Value} {news news' : Led} {n : Nat} {x : Value} {vs : List Value}
theorem append_lK {Q : Value → Shared → Prop} (F : Fr h₀ L s.heap m) (N : News h₀ L s.heap news) (U : Upd D (listOf vs.toArray n) (listOf (vs ++ [x]).toArray (n + 1)) news news') (hz : vs.length < 1000000)
    (h : ∀ h', Fr h₀ L h' m → News h₀ L h' news' → Q .none { s with heap := h' }) : wpAny (model prog w) A (call (.builtin "list.append") [.ref D, x]) Q E s := by
  have e : vs.toArray.push x = (vs ++ [x]).toArray := by simp
  refine append_K (its := vs.toArray) (n := n) F N (e ▸ U) h ?_
  rw [List.size_toArray, sizeLine_eq]
  omega
theorem reverse_lK {Q : Value → Shared → Prop} (F : Fr h₀ L s.heap m) (N : News h₀ L s.heap news) (U : Upd D (listOf vs.toArray n) (listOf vs.reverse.toArray n) news news') (hz : vs.length < 1000000)
    (h : ∀ h', Fr h₀ L h' m → News h₀ L h' news' → Q .none { s with heap := h' }) : wpAny (model prog w) A (call (.builtin "list.reverse") [.ref D]) Q E s := by
  refine kl_reverse (its := vs.toArray) F N rfl U ?_ h
  rw [sizeLine_eq]
  show vs.length ≤ _
  omega
end
end Mine
namespace Mine
theorem TurnJ.fin {h₀ h' : Heap} {L I : Addr} {it : Obj} {Jn : (Str → Option Value) → Led → Prop} {m' : Str → Option Value} {all : Led} {s₁ : Shared} {tk : Nat} {Q : Flow → Shared → Prop}
    (F : Fr h₀ L h' m') (N : News h₀ L h' all) (news' : Led) (sub : ∀ p ∈ (I, it) :: news', p ∈ all) (off : ∀ p ∈ news', p.1 ≠ I) (j : Jn m' news') : TurnJ h₀ L I it Jn s₁ Q .next { s₁ with heap := h', toks := tk } :=
  ⟨h', tk, m', news', rfl, F, fun p hp => N p (sub p hp), off, j⟩
end Mine
namespace Mine
theorem TurnJ.fin1 {h₀ h' : Heap} {L I : Addr} {it : Obj} {Jn : (Str → Option Value) → Led → Prop} {m' : Str → Option Value} {p0 : Addr × Obj} {news' : Led} {s₁ : Shared} {tk : Nat} {Q : Flow → Shared → Prop}
    (F : Fr h₀ L h' m') (N : News h₀ L h' (p0 :: (I, it) :: news')) (off : ∀ p ∈ news', p.1 ≠ I) (j : Jn m' news') : TurnJ h₀ L I it Jn s₁ Q .next { s₁ with heap := h', toks := tk } :=
  TurnJ.fin F N news' (fun _ hp => .tail _ hp) off j
theorem TurnJ.fin0 {h₀ h' : Heap} {L I : Addr} {it : Obj} {Jn : (Str → Option Value) → Led → Prop} {m' : Str → Option Value} {news' : Led} {s₁ : Shared} {tk : Nat} {Q : Flow → Shared → Prop}
    (F : Fr h₀ L h' m') (N : News h₀ L h' ((I, it) :: news')) (off : ∀ p ∈ news', p.1 ≠ I) (j : Jn m' news') : TurnJ h₀ L I it Jn s₁ Q .next { s₁ with heap := h', toks := tk } :=
  TurnJ.fin F N news' (fun _ hp => hp) off j
end Mine
namespace Mine
theorem news_hd {h₀ h : Heap} {L : Addr} {p : Addr × Obj} {T T2 : Led} (N : News h₀ L h (p :: T)) (k : ∀ q ∈ T2, q ∈ T) : News h₀ L h (p :: T2) := fun q hq => by
  rcases List.mem_cons.mp hq with rfl | hq
  · exact N _ (.head _)
  · exact N _ (.tail _ (k q hq))
end Mine
end
section
open PySem PySem.W PyProof.Rows PySem.Calls
open PyProof.Rows.LCg
set_option maxRecDepth 100000
namespace Mine
noncomputable def Blk (prog : Program) (w : World) (A : Around) (h₀ : Heap) (L : Addr) (m : Str → Option Value) (env : Env) (elt : Expr) (x : Str) (scope : Scope) (cl : List (Str × Addr)) (Fin : Shared → List Value → Led → Prop) (it : Value) (s₂ : Shared) : Prop :=
  ∃ (I : Addr) (fp : List Addr) (n : Nat) (P : Nat → Value → Prop) (St : Nat → Heap → Prop) (S : Led → Prop) (news : Led),
    it = .ref I ∧ Walks prog w A I fp [I] n P St ∧ n ≤ sizeLine ∧ (∀ i h, St i h → ∃ o, h.get? I = some o) ∧
    (∀ i h h' o nw, St i h → h.get? I = some o → h'.get? I = some o → (∀ b o, h₀.get? b = some o → h'.get? b = some o) → News h₀ L h' nw → S nw → St i h') ∧
    St 0 s₂.heap ∧ (∀ b ∈ fp, b < s₂.heap.objs.size) ∧ Fr h₀ L s₂.heap m ∧ News h₀ L s₂.heap news ∧ L ≠ I ∧ h₀.get? I = none ∧ (∀ p ∈ news, p.1 ≠ I) ∧ S news ∧
    CompRest prog w A h₀ L m env elt x scope cl s₂ S P (Fin s₂) n 0 [] news
section
variable {prog : Program} {w : World} {A : Around} {E : Value → Shared → Prop} {s : Shared} {h₀ : Heap} {L : Addr} {m : Str → Option Value} {env : Env}
theorem ListComp_W {elt iter : Expr} {x : Str} {px : Pos} {scope : Scope} {cl : List (Str × Addr)} {pos : Pos} {Q : Value → Shared → Prop} (_F₀ : Fr h₀ L s.heap m)
    (hclos : closureFor scope env = pure cl) (hcell : ∀ y ∈ scope.names, y.2 ≠ .cell) (hkind : scope.kind = .function)
    (hnames : ∀ y ∈ scope.names, y.2 = .local → scope.names.lookup y.1 = some .local) (hx : scope.names.lookup x = some .local)
    (h : wpAny (model prog w) A (eval iter env) (fun xv s₁ => wpAny (model prog w) A (pyIter xv) (Blk prog w A h₀ L m env elt x scope cl (fun s₂ => FinE h₀ L m s₂ Q)) E s₁) E s)
    (hs : ∀ x, foldedSetIterable iter env x = pure x := by intro _; rfl) :
    wpAny (model prog w) A (eval (.ListComp elt [⟨.Name x px, iter, [], 0⟩] scope pos) env) Q E s := by
  rw [eval_ListComp]
  refine wpAny_comprehension_free (use := none) rfl hs hclos hkind hnames (wpAny_mono h (fun xv s₁ h₁ => wpAny_mono h₁ (fun it s₂ h₂ => ?_) fun _ _ e => e) fun _ _ e => e)
  refine Classical.byContradiction fun hG' => ?_
  obtain ⟨I, fp, n, P, St, S, news, rfl, W, hsz, hIo, hSt, hst, hfp, F, N, hIL, hI₀, off, hS, R⟩ := h₂
  refine hG' ?_
  clear hG'
  refine block_U W hsz hIo hSt hcell hkind hx hst hfp F N hIL hI₀ off hS R ?_
  intro D C h tk m' ys news' F' N' o1 hn hC₀ hD₀ hCL hDL hCD offC fin
  refine ⟨m', hn, fun h'' hs'' => fin D h'' tk (F'.change hs'' hCL hC₀) (fun p hp => ?_) o1⟩
  refine ⟨hs''.extBut _ _ ?_ (N' p hp).1, (N' p hp).2⟩
  rcases List.mem_cons.mp hp with rfl | hp
  · exact Ne.symm hCD
  · exact offC p hp
theorem Assign_ListComp_W {elt iter : Expr} {x y : Str} {px py : Pos} {scope : Scope} {cl : List (Str × Addr)} {pos spos : Pos} {Q : Flow → Shared → Prop} (_F₀ : Fr h₀ L s.heap m) (hLe : env.locals = L)
    (hsw : swapsWith (.ListComp elt [⟨.Name x px, iter, [], 0⟩] scope pos) (some (.Name y py)) spos.line env = pure true)
    (hclos : closureFor scope env = pure cl) (hcell : ∀ z ∈ scope.names, z.2 ≠ .cell) (hkind : scope.kind = .function)
    (hnames : ∀ z ∈ scope.names, z.2 = .local → scope.names.lookup z.1 = some .local) (hx : scope.names.lookup x = some .local)
    (hy : env.kindOf y = some .local) (hp : (env.scope.kind == .class || (env.scope.kind == .module && env.locals != env.globals)) = false)
    (h : wpAny (model prog w) A (eval iter env) (fun xv s₁ => wpAny (model prog w) A (pyIter xv) (Blk prog w A h₀ L m env elt x scope cl (fun s₂ => FinA h₀ L m s₂ y Q)) E s₁) E s)
    (hs : ∀ x, foldedSetIterable iter env x = pure x := by intro _; rfl) :
    wpAny (model prog w) A (exec (.Assign [.Name y py] (.ListComp elt [⟨.Name x px, iter, [], 0⟩] scope pos) spos) env) Q E s := by
  subst hLe
  rw [exec_Assign_Name_used _ _ _ _ hsw]
  refine wpAny_bind (wpAny_standAt (wpAny_bind ?_))
  show wpAny _ A (do let _ ← comprehension (.ListComp elt [⟨.Name x px, iter, [], 0⟩] scope pos) scope env _ (newList []) false (eval iter env) (some (assign (.Name y py) env))) _ _ s
  refine wpAny_bind (wpAny_mono (wpAny_comprehension_free (use := some (assign (.Name y py) env)) (Q := fun _ s' => Q .next s') rfl hs hclos hkind hnames
    (wpAny_mono h (fun xv s₁ h₁ => wpAny_mono h₁ (fun it s₂ h₂ => ?_) fun _ _ e => e) fun _ _ e => e)) (fun _ s' hq => wpAny_pure (wpAny_pure hq)) fun _ _ e => e)
  refine Classical.byContradiction fun hG' => ?_
  obtain ⟨I, fp, n, P, St, S, news, rfl, W, hsz, hIo, hSt, hst, hfp, F, N, hIL, hI₀, off, hS, R⟩ := h₂
  refine hG' ?_
  clear hG'
  refine block_U W hsz hIo hSt hcell hkind hx hst hfp F N hIL hI₀ off hS R ?_
  intro D C h' tk m' ys news' F' N' o1 hn hC₀ hD₀ hCL hDL hCD offC fin
  show wpAny _ A (assign (.Name y py) env (.ref D)) _ _ _
  refine wpAny_assign_Name (wpAny_storeName_local hy F'.ns (fun h₂ hn₂ hs₂ => ?_) hp)
  have hL₀ : h₀.get? env.locals = none := Heap.get?_none_of_le F'.above
  have F₂ : Fr h₀ env.locals h₂ (fun z => if z = y then some (.ref D) else m z) := ⟨hn₂, fun b o e => hs₂.extBut b o (fun q => by rw [q, hL₀] at e; cases e) (F'.keep b o e), F'.above⟩
  refine ⟨m', hn.sameBut hs₂ hCL, fun h'' hs'' => fin D h'' _ (F₂.change hs'' hCL hC₀) (fun p hp => ?_) o1⟩
  have z : h₂.get? p.1 = some p.2 := hs₂.extBut _ _ (N' p hp).2.1 (N' p hp).1
  refine ⟨hs''.extBut _ _ ?_ z, (N' p hp).2⟩
  rcases List.mem_cons.mp hp with rfl | hp
  · exact Ne.symm hCD
  · exact offC p hp
theorem blk_list {elt : Expr} {x : Str} {scope : Scope} {cl : List (Str × Addr)} {Fin : Shared → List Value → Led → Prop} {l : Addr} {vs : List Value} {k : Nat} {news : Led}
    (hh : A.handled = none) (F : Fr h₀ L s.heap m) (N : News h₀ L s.heap news) (hl : (l, listOf vs.toArray k) ∈ news) (hsz : vs.length ≤ 1000000)
    (R : ∀ g : Heap, CompRest prog w A h₀ L m env elt x scope cl { s with heap := g } (fun led => (l, listOf vs.toArray k) ∈ led) (fun i v => vs[i]? = some v) (Fin { s with heap := g }) vs.length 0 [] news) :
    wpAny (model prog w) A (pyIter (.ref l)) (Blk prog w A h₀ L m env elt x scope cl Fin) E s := by
  have hls : s.heap.IsList l vs.toArray := PySem.IsL.isList (n := k) (N _ hl).1
  have hlt : l < s.heap.objs.size := Heap.lt_size (N _ hl).1
  refine wpAny_pyIter_list hls ?_
  have W : Walks prog w A s.heap.objs.size [s.heap.objs.size, l] [s.heap.objs.size] vs.length (fun i v => vs.toArray[i]? = some v) (fun i h => h.IsListIter s.heap.objs.size l i ∧ h.IsList l vs.toArray) := Walks.list (prog := prog) (w := w) hh s.heap.objs.size l (Nat.ne_of_lt hlt) vs.toArray
  refine ⟨s.heap.objs.size, _, vs.length, _, _, fun led => (l, listOf vs.toArray k) ∈ led, news, rfl, W, by rw [sizeLine_eq]; omega, fun i h st => by obtain ⟨o, e, _⟩ := st.1; exact ⟨o, e⟩, ?_, ⟨⟨_, Heap.get?_push_size _ rfl, rfl, rfl⟩, hls.push _⟩, ?_, F.push _, fun p hp => ⟨Heap.get?_push_of_some _ (N p hp).1, (N p hp).2⟩,
    Nat.ne_of_lt F.ns.lt, next_is_new F, fun p hp => Nat.ne_of_lt (Heap.lt_size (N p hp).1), hl, ?_⟩
  · intro i h h' o nw st e e' k' N' hS
    exact ⟨by obtain ⟨o', q, r⟩ := st.1; rw [e] at q; cases q; exact ⟨o, e', r⟩, PySem.IsL.isList (n := k) (N' _ hS).1⟩
  · intro b hb
    show b < (s.heap.push _).objs.size
    rw [Heap.size_push]
    rcases List.mem_cons.mp hb with rfl | hb
    · exact Nat.lt_succ_self _
    · rw [List.mem_singleton.mp hb]; exact Nat.lt_succ_of_lt hlt
  · have := R (s.heap.push { cls := .type "list_iterator", data := .fields #[.ref l, .int 0 0] })
    simpa using this
theorem blk_tuple {elt : Expr} {x : Str} {scope : Scope} {cl : List (Str × Addr)} {Fin : Shared → List Value → Led → Prop} {l : Addr} {vs : List Value} {news : Led}
    (hh : A.handled = none) (F : Fr h₀ L s.heap m) (N : News h₀ L s.heap news) (hl : (l, tupObj vs) ∈ news) (hsz : vs.length ≤ 1000000)
    (R : ∀ g : Heap, CompRest prog w A h₀ L m env elt x scope cl { s with heap := g } (fun led => (l, tupObj vs) ∈ led) (fun i v => vs[i]? = some v) (Fin { s with heap := g }) vs.length 0 [] news) :
    wpAny (model prog w) A (pyIter (.ref l)) (Blk prog w A h₀ L m env elt x scope cl Fin) E s := by
  have hls : s.heap.IsTuple l vs.toArray := ⟨_, (N _ hl).1, rfl, _, rfl⟩
  have hlt : l < s.heap.objs.size := Heap.lt_size (N _ hl).1
  refine wpAny_pyIter_tuple hls ?_
  have W : Walks prog w A s.heap.objs.size [s.heap.objs.size, l] [s.heap.objs.size] vs.length (fun i v => vs.toArray[i]? = some v) (fun i h => h.IsTupleIter s.heap.objs.size l i ∧ h.IsTuple l vs.toArray) := Walks.tuple (prog := prog) (w := w) hh s.heap.objs.size l (Nat.ne_of_lt hlt) vs.toArray
  refine ⟨s.heap.objs.size, _, vs.length, _, _, fun led => (l, tupObj vs) ∈ led, news, rfl, W, by rw [sizeLine_eq]; omega, fun i h st => by obtain ⟨o, e, _⟩ := st.1; exact ⟨o, e⟩, ?_, ⟨⟨_, Heap.get?_push_size _ rfl, rfl, rfl⟩, ⟨_, Heap.get?_push_of_some _ (N _ hl).1, rfl, _, rfl⟩⟩, ?_, F.push _, fun p hp => ⟨Heap.get?_push_of_some _ (N p hp).1, (N p hp).2⟩,
    Nat.ne_of_lt F.ns.lt, next_is_new F, fun p hp => Nat.ne_of_lt (Heap.lt_size (N p hp).1), hl, ?_⟩
  · intro i h h' o nw st e e' k' N' hS
    exact ⟨by obtain ⟨o', q, r⟩ := st.1; rw [e] at q; cases q; exact ⟨o, e', r⟩, ⟨_, (N' _ hS).1, rfl, _, rfl⟩⟩
  · intro b hb
    show b < (s.heap.push _).objs.size
    rw [Heap.size_push]
    rcases List.mem_cons.mp hb with rfl | hb
    · exact Nat.lt_succ_self _
    · rw [List.mem_singleton.mp hb]; exact Nat.lt_succ_of_lt hlt
  · have := R (s.heap.push { cls := .type "tuple_iterator", data := .fields #[.ref l, .int 0 0] })
    simpa using this
theorem comp_inv {elt : Expr} {x : Str} {scope : Scope} {cl : List (Str × Addr)} {S : Led → Prop} {P : Nat → Value → Prop} {Fin : List Value → Led → Prop} {n : Nat} {news : Led} (J : List Value → Led → Prop) (j0 : J [] news)
    (turn : ∀ i v ys led I oI C oC D m₂ h tk (E' : Value → Shared → Prop), i < n → P i v → ys.length = i → J ys led → NsObj oC m₂ → m₂ x = some v → Fr h₀ L h m → News h₀ L h ((I, oI) :: (C, oC) :: (D, lst ys) :: led) → (∀ p ∈ led, p.1 ≠ I ∧ p.1 ≠ C ∧ p.1 ≠ D) → ((@Ne Nat I C) ∧ (@Ne Nat I D) ∧ (@Ne Nat C D)) →
      wpAny (model prog w) A (eval elt (compEnvC scope cl C env)) (CompEnd h₀ L m { s with heap := h, toks := tk } I oI C oC D (lst ys) S (fun y news' => J (ys ++ [y]) news')) E' { s with heap := h, toks := tk })
    (fin : ∀ ys led, ys.length = n → J ys led → Fin ys led) : CompRest prog w A h₀ L m env elt x scope cl s S P Fin n 0 [] news := by
  have key : ∀ (j i : Nat) (ys : List Value) (led : Led), i + j = n → ys.length = i → J ys led → CompRest prog w A h₀ L m env elt x scope cl s S P Fin j i ys led := by
    intro j
    induction j with
    | zero =>
      intro i ys led hi hy hj
      exact CompRest.zero (fin ys led (by omega) hj)
    | succ j ih =>
      intro i ys led hi hy hj
      refine CompRest.succ ?_
      intro v I oI C oC D m₂ h tk E' hv hC hx F N off ne
      refine wpAny_mono (turn i v ys led I oI C oC D m₂ h tk E' (by omega) hv hy hj hC hx F N off.mem ne) (fun y s₂ hq => ?_) fun _ _ e => e
      refine Classical.byContradiction fun hG' => ?_
      obtain ⟨h', tk', nw, e, F', N', off', hS, hj'⟩ := hq
      refine hG' ?_
      clear hG'
      exact ⟨h', tk', nw, e, F', N', off', hS, ih (i + 1) _ nw (by omega) (by rw [List.length_append, hy]; rfl) hj'⟩
  exact key n 0 [] news (by omega) rfl j0
theorem ints_take {ys : List Value} {y : Value} {g : Nat → Int} {i : Nat} {t : Tok} (h : IntsAre ys ((List.range i).map g)) (e : y = .int (g i) t) : IntsAre (ys ++ [y]) ((List.range (i + 1)).map g) := by
  rw [List.range_succ, List.map_append, e]
  exact h.append (.cons _ _ .nil)
theorem comp_ints {elt : Expr} {x : Str} {scope : Scope} {cl : List (Str × Addr)} {S : Led → Prop} {P : Nat → Value → Prop} {Fin : List Value → Led → Prop} {n : Nat} {news : Led} (g : Nat → Int)
    (turn : ∀ i v ys I oI C oC D m₂ h tk (E' : Value → Shared → Prop), i < n → P i v → NsObj oC m₂ → m₂ x = some v → Fr h₀ L h m → News h₀ L h ((I, oI) :: (C, oC) :: (D, lst ys) :: news) → (∀ p ∈ news, p.1 ≠ I ∧ p.1 ≠ C ∧ p.1 ≠ D) → ((@Ne Nat I C) ∧ (@Ne Nat I D) ∧ (@Ne Nat C D)) →
      wpAny (model prog w) A (eval elt (compEnvC scope cl C env)) (CompEnd h₀ L m { s with heap := h, toks := tk } I oI C oC D (lst ys) S (fun y news' => news' = news ∧ ∃ t, y = .int (g i) t)) E' { s with heap := h, toks := tk })
    (fin : ∀ ys, IntsAre ys ((List.range n).map g) → Fin ys news) : CompRest prog w A h₀ L m env elt x scope cl s S P Fin n 0 [] news := by
  refine comp_inv (J := fun ys led => led = news ∧ IntsAre ys ((List.range ys.length).map g)) ⟨rfl, .nil⟩ ?_ ?_
  · rintro i v ys led I oI C oC D m₂ h tk E' hi hv hy ⟨rfl, hj⟩ hC hx F N off ne
    refine wpAny_mono (turn i v ys I oI C oC D m₂ h tk E' hi hv hC hx F N off ne) (fun y s₂ hq => ?_) fun _ _ e => e
    refine Classical.byContradiction fun hG' => ?_
    obtain ⟨h', tk', nw, e, F', N', off', hS, rfl, t, hy'⟩ := hq
    refine hG' ?_
    clear hG'
    refine ⟨h', tk', nw, e, F', N', off', hS, rfl, ?_⟩
    rw [List.length_append, show [y].length = 1 from rfl, hy]
    exact ints_take (hy ▸ hj) hy'
  · rintro ys led hy ⟨rfl, hj⟩
    exact fin ys (hy ▸ hj)
end
theorem CompEnd.fin {h₀ : Heap} {L I C D : Addr} {m : Str → Option Value} {s₁ : Shared} {oI oC oD : Obj} {S : Led → Prop} {rest : Value → Led → Prop} {y : Value} {h' : Heap} {tk : Nat} {all : Led}
    (F : Fr h₀ L h' m) (N : News h₀ L h' all) (news' : Led) (sub : ∀ p ∈ (I, oI) :: (C, oC) :: (D, oD) :: news', p ∈ all) (off : ∀ p ∈ news', p.1 ≠ I ∧ p.1 ≠ C ∧ p.1 ≠ D) (hS : S news') (r : rest y news') :
    CompEnd h₀ L m s₁ I oI C oC D oD S rest y { s₁ with heap := h', toks := tk } := CompEnd.intro F N news' sub (Off3.of off) hS r
theorem CompEnd.fin0 {h₀ : Heap} {L I C D : Addr} {m : Str → Option Value} {s₁ : Shared} {oI oC oD : Obj} {S : Led → Prop} {a b : Int} {t : Tok} {news' : Led} {h' : Heap} {tk : Nat}
    (F : Fr h₀ L h' m) (N : News h₀ L h' ((I, oI) :: (C, oC) :: (D, oD) :: news')) (off : ∀ p ∈ news', p.1 ≠ I ∧ p.1 ≠ C ∧ p.1 ≠ D) (hS : S news') (e : a = b) :
    CompEnd h₀ L m s₁ I oI C oC D oD S (fun y nw => nw = news' ∧ ∃ t, y = .int b t) (.int a t) { s₁ with heap := h', toks := tk } :=
  CompEnd.fin F N news' (fun _ h => h) off hS ⟨rfl, t, by rw [e]⟩
theorem off1_of {D : Addr} : ∀ {l : Led}, Off1 D l → ∀ p ∈ l, p.1 ≠ D
  | [], _ => fun _ h => nomatch h
  | _ :: _, h => fun p hp => by
    rcases List.mem_cons.mp hp with rfl | hp
    · exact h.1
    · exact off1_of h.2 p hp
end Mine
end
section
open PySem PySem.W PyProof.Rows PySem.Calls
open PyProof.Rows.LCg
set_option maxRecDepth 100000
namespace Mine
abbrev ZSt (z TI TO i1 i2 l1 l2 : Addr) (vs₁ vs₂ : List Value) (i : Nat) (h : Heap) : Prop :=
  IsZip h z TI TO .none ∧ IsPair h TI (.ref i1) (.ref i2) ∧ (∃ a b, IsPair h TO a b) ∧ h.IsListIter i1 l1 i ∧ h.IsListIter i2 l2 i ∧ h.IsList l1 vs₁.toArray ∧ h.IsList l2 vs₂.toArray
section
variable {prog : Program} {w : World} {A : Around} {E : Value → Shared → Prop} {s : Shared} {h₀ : Heap} {L : Addr} {m : Str → Option Value} {news : Led}
theorem zip_core {l1 l2 : Addr} {vs₁ vs₂ : List Value} {k1 k2 : Nat} {Q' : Value → Shared → Prop} (F : Fr h₀ L s.heap m) (N : News h₀ L s.heap news)
    (h1 : (l1, listOf vs₁.toArray k1) ∈ news) (h2 : (l2, listOf vs₂.toArray k2) ∈ news)
    (h : ∀ z TI TO i1 i2 h', ZipApart z TI TO i1 i2 l1 l2 → ZSt z TI TO i1 i2 l1 l2 vs₁ vs₂ 0 h' → Fr h₀ L h' m → News h₀ L h' news → (∀ b ∈ [z, TI, TO, i1, i2], h₀.get? b = none ∧ b ≠ L ∧ b < h'.objs.size ∧ ∀ q ∈ news, q.1 ≠ b) → l1 < h'.objs.size → l2 < h'.objs.size →
      Q' (.ref z) { s with heap := h' }) :
    wpAny (model prog w) A (call (.type "zip") [.ref l1, .ref l2]) (fun xv s₁ => wpAny (model prog w) A (pyIter xv) Q' E s₁) E s := by
  have hls1 : s.heap.IsList l1 vs₁.toArray := PySem.IsL.isList (n := k1) (N _ h1).1
  have hls2 : s.heap.IsList l2 vs₂.toArray := PySem.IsL.isList (n := k2) (N _ h2).1
  have a1 : l1 < s.heap.objs.size := Heap.lt_size (N _ h1).1
  have a2 : l2 < s.heap.objs.size := Heap.lt_size (N _ h2).1
  have hLs : L < s.heap.objs.size := F.ns.lt
  have hab : h₀.objs.size ≤ L := F.above
  refine call_zip_2 hls1 hls2 fun h' hz hTI hTO hit1 hit2 hsz hk => ?_
  refine wpAny_pyIter_zip hz ?_
  refine h _ _ _ _ _ h' (zipApart_new a1 a2) ⟨hz, hTI, ⟨_, _, hTO⟩, hit1, hit2, hls1.at fun o e => hk _ o e, hls2.at fun o e => hk _ o e⟩ ⟨F.ns.keeps hk, fun b o e => hk b o (F.keep b o e), F.above⟩ (fun p hp => ⟨hk _ _ (N p hp).1, (N p hp).2⟩) ?_ ?_ ?_
  · have key : ∀ k, k < 5 → h₀.get? (s.heap.objs.size + k) = none ∧ s.heap.objs.size + k ≠ L ∧ s.heap.objs.size + k < h'.objs.size ∧ ∀ q ∈ news, q.1 ≠ s.heap.objs.size + k := fun k hk5 =>
      ⟨Heap.get?_none_of_le (Nat.le_trans hab (Nat.le_trans (Nat.le_of_lt hLs) (Nat.le_add_right _ k))), Nat.ne_of_gt (Nat.lt_of_lt_of_le hLs (Nat.le_add_right _ k)), by rw [hsz]; exact Nat.add_lt_add_left hk5 _,
        fun q hq => Nat.ne_of_lt (Nat.lt_of_lt_of_le (Heap.lt_size (N q hq).1) (Nat.le_add_right _ k))⟩
    intro b hb
    simp only [List.mem_cons, List.not_mem_nil, or_false] at hb
    rcases hb with rfl | rfl | rfl | rfl | rfl
    · exact key 4 (by decide)
    · exact key 2 (by decide)
    · exact key 3 (by decide)
    · exact key 0 (by decide)
    · exact key 1 (by decide)
  · rw [hsz]; exact Nat.lt_of_lt_of_le a1 (Nat.le_add_right _ 5)
  · rw [hsz]; exact Nat.lt_of_lt_of_le a2 (Nat.le_add_right _ 5)
noncomputable def BlkZ (prog : Program) (w : World) (A : Around) (E : Value → Shared → Prop) (Q : Value → Shared → Prop) (env : Env) (elt iter : Expr) (a b : Str) (pa pb tp : Pos) (kk : Nat) (scope : Scope) (cl : List (Str × Addr)) (pos : Pos) (it : Value) (s₂ : Shared) : Prop :=
  wpAny (model prog w) A (newList []) (fun acc s₃ => wpAny (model prog w) A (newFunctionEnv scope env.globals cl [] env.qual none .none (some env)) (fun cenv s₄ =>
      codeAny (model prog w) A (.compStart (.ListComp elt [⟨.Tuple [.Name a pa, .Name b pb] kk tp, iter, [], 0⟩] scope pos) 0 it acc { cenv with scope := relabel scope env }) (compPost (model prog w) A E none Q acc cenv.locals) s₄) E s₃) E s₂
theorem ListComp_Z {env : Env} {elt iter : Expr} {a b : Str} {pa pb tp : Pos} {kk : Nat} {scope : Scope} {cl : List (Str × Addr)} {pos : Pos} {Q : Value → Shared → Prop}
    (hclos : closureFor scope env = pure cl) (hkind : scope.kind = .function)
    (hnames : ∀ y ∈ scope.names, y.2 = .local → scope.names.lookup y.1 = some .local)
    (h : wpAny (model prog w) A (eval iter env) (fun xv s₁ => wpAny (model prog w) A (pyIter xv) (BlkZ prog w A E Q env elt iter a b pa pb tp kk scope cl pos) E s₁) E s)
    (hs : ∀ x, foldedSetIterable iter env x = pure x := by intro _; rfl) :
    wpAny (model prog w) A (eval (.ListComp elt [⟨.Tuple [.Name a pa, .Name b pb] kk tp, iter, [], 0⟩] scope pos) env) Q E s := by
  rw [eval_ListComp]
  exact wpAny_comprehension_free (use := none) rfl hs hclos hkind hnames h
theorem zip_blk {env : Env} {elt iter : Expr} {a b : Str} {pa pb tp : Pos} {kk : Nat} {scope : Scope} {cl : List (Str × Addr)} {pos : Pos} {Q : Value → Shared → Prop} {l1 l2 : Addr} {vs₁ vs₂ : List Value} {k1 k2 n : Nat} (g : Nat → Int)
    (hh : A.handled = none) (hcell : ∀ y ∈ scope.names, y.2 ≠ .cell) (hkind : scope.kind = .function) (hxa : scope.names.lookup a = some .local) (hxb : scope.names.lookup b = some .local) (hab : ¬ a = b)
    (F : Fr h₀ L s.heap m) (N : News h₀ L s.heap news) (h1 : (l1, listOf vs₁.toArray k1) ∈ news) (h2 : (l2, listOf vs₂.toArray k2) ∈ news) (hn1 : vs₁.length = n) (hn2 : vs₂.length = n) (hsz : n ≤ 1000000)
    (turn : ∀ i v0 v1 C oC D oD m₂ h tk (E' : Value → Shared → Prop), vs₁[i]? = some v0 → vs₂[i]? = some v1 → NsObj oC m₂ → m₂ a = some v0 → m₂ b = some v1 → Fr h₀ L h m → News h₀ L h ((C, oC) :: (D, oD) :: news) →
      wpAny (model prog w) A (eval elt (compEnvC scope cl C env)) (fun y s₂ => ∃ tk' t, s₂ = { s with heap := h, toks := tk' } ∧ y = .int (g i) t) E' { s with heap := h, toks := tk })
    (fin : ∀ D h tk ys, IntsAre ys ((List.range n).map g) → Fr h₀ L h m → News h₀ L h ((D, lst ys) :: news) → (∀ p ∈ news, p.1 ≠ D) → Q (.ref D) { s with heap := h, toks := tk }) :
    wpAny (model prog w) A (call (.type "zip") [.ref l1, .ref l2]) (fun xv s₁ => wpAny (model prog w) A (pyIter xv) (BlkZ prog w A E Q env elt iter a b pa pb tp kk scope cl pos) E s₁) E s := by
  refine zip_core F N h1 h2 fun z TI TO i1 i2 H D hst F₁ N₁ fresh hl1 hl2 => ?_
  clear F N
  unfold BlkZ
  have W := WalksT.zip2 (prog := prog) (w := w) hh z TI TO i1 i2 l1 l2 D vs₁.toArray vs₂.toArray
  rw [show min vs₁.toArray.size vs₂.toArray.size = n from by simp [hn1, hn2]] at W
  refine wpAny_newObj_type (wpAny_newFunctionEnv hcell (by intro y hy; simp at hy) (fun h₁ hns₁ hsb₁ => ?_) hkind)
  dsimp only at hns₁ hsb₁ ⊢
  generalize hH2 : H.push { cls := .type "list", dict := none, data := .seq ([] : List Value).toArray } = H2 at hns₁ hsb₁ ⊢
  have hC : H2.objs.size = H.objs.size + 1 := by rw [← hH2, Heap.size_push]
  have hDC : H.objs.size ≠ H2.objs.size := by rw [hC]; exact Nat.ne_of_lt (Nat.lt_succ_self _)
  have below : ∀ b, b < H.objs.size → b ≠ H2.objs.size ∧ b ≠ H.objs.size := fun b hb => ⟨by rw [hC]; exact Nat.ne_of_lt (Nat.lt_succ_of_lt hb), Nat.ne_of_lt hb⟩
  have hfp : ∀ b ∈ [z, TI, TO, i1, i2, l1, l2], b < H.objs.size := fun b hb => by
    simp only [List.mem_cons, List.not_mem_nil, or_false] at hb
    rcases hb with rfl | rfl | rfl | rfl | rfl | rfl | rfl
    · exact (fresh _ (by simp)).2.2.1
    · exact (fresh _ (by simp)).2.2.1
    · exact (fresh _ (by simp)).2.2.1
    · exact (fresh _ (by simp)).2.2.1
    · exact (fresh _ (by simp)).2.2.1
    · exact hl1
    · exact hl2
  have hwr : ∀ b ∈ [z, TO, i1, i2], b ∈ [z, TI, TO, i1, i2] := fun b hb => by
    simp only [List.mem_cons, List.not_mem_nil, or_false] at hb ⊢
    rcases hb with rfl | rfl | rfl | rfl <;> simp
  have hDf : H.objs.size ∉ [z, TI, TO, i1, i2, l1, l2] := fun hm => Nat.lt_irrefl _ (hfp _ hm)
  have hCf : H2.objs.size ∉ [z, TI, TO, i1, i2, l1, l2] := fun hm => by have := hfp _ hm; rw [hC] at this; exact Nat.lt_irrefl _ (Nat.lt_of_succ_lt this)
  have old : ∀ b o, H.get? b = some o → h₁.get? b = some o := fun b o e => hsb₁.extBut b o (below b (Heap.lt_size e)).1 (Heap.get?_push_of_some _ (hH2 ▸ Heap.get?_push_of_some _ e))
  have hacc : h₁.get? H.objs.size = some (lst []) := hsb₁.extBut _ _ hDC (Heap.get?_push_of_some _ (hH2 ▸ Heap.get?_push_size _ rfl))
  have hst₁ : ZSt z TI TO i1 i2 l1 l2 vs₁ vs₂ 0 h₁ := W.frame 0 _ _ hst fun b _ o e => old b o e
  have fresh₀ : ∀ a, H.objs.size ≤ a → h₀.get? a = none := fun a ha => by
    cases e : h₀.get? a with
    | none => rfl
    | some o' => exact absurd (Heap.lt_size (F₁.keep a o' e)) (Nat.not_lt.mpr ha)
  have hD₀ : h₀.get? H.objs.size = none := fresh₀ _ (Nat.le_refl _)
  have hC₀ : h₀.get? H2.objs.size = none := fresh₀ _ (by rw [hC]; exact Nat.le_succ _)
  have hLlt : L < H.objs.size := F₁.ns.lt
  have hDL : H.objs.size ≠ L := Ne.symm (below L hLlt).2
  have hCL : H2.objs.size ≠ L := Ne.symm (below L hLlt).1
  have hnw : ∀ p ∈ news, p.1 ∉ [z, TO, i1, i2] ∧ p.1 ≠ H2.objs.size ∧ p.1 ≠ H.objs.size := fun p hp =>
    ⟨fun hm => (fresh _ (hwr _ hm)).2.2.2 p hp rfl, (below _ (Heap.lt_size (N₁ p hp).1)).1, (below _ (Heap.lt_size (N₁ p hp).1)).2⟩
  have hLw : L ∉ [z, TO, i1, i2] := fun hm => (fresh _ (hwr _ hm)).2.1 rfl
  have old₀ : ∀ b o, h₀.get? b = some o → b ∉ [z, TO, i1, i2] := fun b o e hb => by rw [(fresh _ (hwr _ hb)).1] at e; cases e
  have hDw : H.objs.size ∉ [z, TO, i1, i2] := fun hm => hDf (W.sub _ hm)
  have hCw : H2.objs.size ∉ [z, TO, i1, i2] := fun hm => hCf (W.sub _ hm)
  have loop : ∀ s₃ : Shared, s₃ = { s with heap := h₁, toks := s.toks + ([] : List (Str × Value)).length } →
      codeAny (model prog w) A (.compLoop (.ListComp elt [⟨.Tuple [.Name a pa, .Name b pb] kk tp, iter, [], 0⟩] scope pos) 0 (.ref z) (.ref H.objs.size) (compEnvC scope cl H2.objs.size env))
        (compPost (model prog w) A E none Q (.ref H.objs.size) H2.objs.size) s₃ := by
    rintro s₃ rfl
    refine kcp_loop
      (fun k s' => ∃ h' tk i ys m', s' = { s with heap := h', toks := tk } ∧ i ≤ n ∧ k = n + 1 - i ∧ IntsAre ys ((List.range i).map g) ∧ ZSt z TI TO i1 i2 l1 l2 vs₁ vs₂ i h' ∧ Fr h₀ L h' m ∧ h'.Ns H2.objs.size m' ∧
        News h₀ L h' ((H.objs.size, lst ys) :: news)) ?_ (n + 1)
      ⟨h₁, _, 0, [], _, rfl, Nat.zero_le _, rfl, .nil, hst₁, F₁.keeps old, hns₁, fun p hp => ?_⟩
    · intro k s' hp'1
      refine Classical.byContradiction fun hG' => ?_
      obtain ⟨h', tk, i, ys, m', rfl, hi, rfl, hys, hst', F', hn', N'⟩ := hp'1
      refine hG' ?_
      clear hG'
      by_cases hlt : i < n
      · refine W.item i _ _ _ hlt hst' fun T vals h₂ tk₂ hP hT2 hTup hMid hk₂ => ?_
        have hTlt : h'.objs.size ≤ T := hT2
        refine Classical.byContradiction fun hG' => ?_
        obtain ⟨v0, v1, hv0, hv1, rfl⟩ := hP
        refine hG' ?_
        clear hG'
        have hTw := W.apart _ _ _ hMid
        refine W.go _ _ _ i T _ _ _ hMid fun h₃ hst₃ hk₃ => ?_
        have hTup3 : h₃.IsTuple T #[v0, v1] := hTup.at fun o e => hk₃ T o hTw e
        have up₃ : ∀ c o, c ∉ [z, TO, i1, i2] → h'.get? c = some o → h₃.get? c = some o := fun c o hc e => hk₃ c o hc (hk₂ c o hc e)
        refine kcp_assign (env := compEnvC scope cl H2.objs.size env) hh hTup3 (lookup_relabel_local hxa) (lookup_relabel_local hxb) (by simp [compEnvC, relabel, hkind]) (hn'.at' fun o e => up₃ _ o hCw e) fun h₄ tk₄ hn₄ hs₄ => ?_
        have up : ∀ c o, c ∉ [z, TO, i1, i2] → c ≠ H2.objs.size → h'.get? c = some o → h₄.get? c = some o := fun c o h1 h2 e => hs₄ c o h2 (up₃ c o h1 e)
        have hst₄ : ZSt z TI TO i1 i2 l1 l2 vs₁ vs₂ (i + 1) h₄ := W.frame _ _ _ hst₃ fun c hc o e => hs₄ c o (fun q => hCf (by have q' : c = H2.objs.size := q; rw [← q']; exact hc)) e
        obtain ⟨oC, heC, hoC⟩ := ns_obj hn₄
        have F₄ : Fr h₀ L h₄ m := ⟨F'.ns.at' fun o e => up _ o hLw (Ne.symm hCL) e, fun c o e => up c o (old₀ c o e) (fun q => by rw [q, hC₀] at e; cases e) (F'.keep c o e), F'.above⟩
        have N₅ : News h₀ L h₄ ((H.objs.size, lst ys) :: news) := fun q hq => by
          have z := N' q hq
          refine ⟨up _ _ ?_ ?_ z.1, z.2⟩
          · rcases List.mem_cons.mp hq with rfl | hq
            · exact hDw
            · exact (hnw q hq).1
          · rcases List.mem_cons.mp hq with rfl | hq
            · exact hDC
            · exact (hnw q hq).2.1
        have N₄ : News h₀ L h₄ ((H2.objs.size, oC) :: (H.objs.size, lst ys) :: news) := fun q hq => by
          rcases List.mem_cons.mp hq with rfl | hq
          · exact ⟨heC, hCL, hC₀⟩
          · exact N₅ q hq
        refine wpAny_mono (turn i v0 v1 H2.objs.size oC H.objs.size (lst ys) _ h₄ _ _ (by simpa using hv0) (by simpa using hv1) hoC (by simp [hab]) (by simp) F₄ N₄) (fun y s₅ h₅ => ?_) fun _ _ e => e
        refine Classical.byContradiction fun hG' => ?_
        obtain ⟨tk₅, t, rfl, rfl⟩ := h₅
        refine hG' ?_
        clear hG'
        have hyl : ys.length = i := by rw [hys.length]; simp
        refine append_at (hsz := by show ys.toArray.size ≤ sizeLine; rw [List.size_toArray, hyl, sizeLine_eq]; omega) (N₅ _ (.head _)).1 fun h₆ hs₆ hD₆ => ?_
        refine ⟨n + 1 - (i + 1), by omega, h₆, tk₅, i + 1, ys ++ [.int (g i) t], _, rfl, hlt, rfl, ints_take hys rfl, W.frame _ _ _ hst₄ fun c hc o e => hs₆.extBut c o (fun q => hDf (q ▸ hc)) e, F₄.change hs₆ hDL hD₀, hn₄.sameBut hs₆ (Ne.symm hDC), fun q hq => ?_⟩
        rcases List.mem_cons.mp hq with rfl | hq
        · exact ⟨hD₆.trans (congrArg some (lst_snoc ys _)), hDL, hD₀⟩
        · exact ⟨hs₆.extBut _ _ (hnw q hq).2.2 (N₅ q (.tail _ hq)).1, (N₅ q (.tail _ hq)).2⟩
      · obtain rfl : i = n := Nat.le_antisymm hi (Nat.not_lt.mp hlt)
        refine W.done _ _ _ hst' fun h₂ tk₂ hk₂ => ?_
        have F₂ : Fr h₀ L h₂ m := ⟨F'.ns.at' fun o e => hk₂ _ o hLw e, fun c o e => hk₂ c o (old₀ c o e) (F'.keep c o e), F'.above⟩
        refine ⟨m', hn'.at' fun o e => hk₂ _ o hCw e, fun h'' hs'' => fin _ h'' tk₂ ys hys (F₂.change hs'' hCL hC₀) (fun p hp => ?_) fun p hp => (hnw p hp).2.2⟩
        refine ⟨hs''.extBut _ _ ?_ (hk₂ _ _ ?_ (N' p hp).1), (N' p hp).2⟩
        · rcases List.mem_cons.mp hp with rfl | hp
          · exact hDC
          · exact (hnw p hp).2.1
        · rcases List.mem_cons.mp hp with rfl | hp
          · exact hDw
          · exact (hnw p hp).1
    · rcases List.mem_cons.mp hp with rfl | hp
      · exact ⟨hacc, hDL, hD₀⟩
      · exact ⟨old _ _ (N₁ p hp).1, (N₁ p hp).2⟩
  exact codeAny_compStart_list (loop _ rfl) (wpAny_pyIter_zip hst₁.1 (loop _ rfl))
end
end Mine
end
section
open PySem PySem.W PyProof.Rows PySem.Calls
set_option maxRecDepth 100000
namespace Mine
abbrev half : UInt64 := 4602678819172646912
noncomputable def fint (x : UInt64) : Int := Flt.toInt Float64.truncOf x
noncomputable def rnd (x : UInt64) : Int := fint (Float64.add x 4602678819172646912)
theorem fin_nan {x : UInt64} (h : Float64.isFinite x = true) : Float64.isNaN x = false := by
  unfold Float64.isFinite at h; unfold Float64.isNaN
  cases hd : Float64.decode x <;> simp_all
theorem fin_inf {x : UInt64} (h : Float64.isFinite x = true) : Float64.isInf x = false := by
  unfold Float64.isFinite at h; unfold Float64.isInf
  cases hd : Float64.decode x <;> simp_all
section
variable {prog : Program} {w : World} {A : Around} {E : Value → Shared → Prop} {s : Shared} {h₀ : Heap} {L l : Addr} {m : Str → Option Value} {news : Led} {t u : Tok}
theorem intF_K {x : UInt64} {Q : Value → Shared → Prop} (hh : A.handled = none) (hf : Float64.isFinite x = true) (h : Q (.int (fint x) s.toks) { s with toks := s.toks + 1 }) :
    wpAny (model prog w) A (call (.type "int") [.float x t]) Q E s :=
  PySem.Flt.call_int_float3 hh (fun e => absurd e (by rw [fin_nan hf]; decide)) (fun e => absurd e (by rw [fin_inf hf]; decide)) (fun _ => h)
theorem divif_K {n : Int} {a : UInt64} {Q : Value → Shared → Prop} (hn : -1000000000 < n ∧ n < 1000000000) (ha : Float64.isZero a = false) (h : Q (.float (Float64.div (Float64.ofInt n) a) s.toks) { s with toks := s.toks + 1 }) :
    wpAny (model prog w) A (binaryOp .Div (.int n t) (.float a u)) Q E s :=
  AutoFloatOps.truediv_if_2 (Float64.ofInt_fits (Nat.lt_of_lt_of_le (m := 2 ^ 30) (by omega) (Nat.pow_le_pow_right (by decide) (by decide)))) (by rw [ha]; decide) h
theorem item_lK {value slice : Expr} {vs : List Value} {k : Nat} {i : Int} {v : Value} {Q : Value → Shared → Prop} (N : News h₀ L s.heap news) (hl : (l, listOf vs.toArray k) ∈ news) (hi : 0 ≤ i ∧ i < 1000000) (hv : vs[i.toNat]? = some v) (h : Q v s)
    (hs : subscripted slice false (.ref l) (.int i u) = operate [.ref l, .int i u] (getItem (.ref l) (.int i u)) := by with_unfolding_all rfl) :
    wpAny (model prog w) A (subscriptTail value slice (.ref l) (.int i u)) Q E s := by
  have hls : s.heap.IsList l vs.toArray := PySem.IsL.isList (n := k) (N _ hl).1
  exact tail_any hls.typeIs slot_list_getitem.lookup (wpAny_getItem_list hls hi.1 (by omega) (by simpa using hv) h) hs
theorem pick_from {vs : List Value} {a : Nat} (h : a ≤ vs.length) : (slicePick vs.toArray (some (a : Int)) none none).toList = vs.drop a := by
  rw [slicePick_from _ _ (by simpa using h)]
end
end Mine
end
section
open PySem PySem.W PyProof.Rows PySem.Calls
set_option maxRecDepth 100000
set_option exponentiation.threshold 6000
namespace Mine
theorem pow_le {a b : Nat} (h : a ≤ b) : (2 : Int) ^ a ≤ 2 ^ b := by
  have h1 := Nat.pow_le_pow_right (n := 2) (by decide) h
  have h2 : ((2 ^ a : Nat) : Int) ≤ ((2 ^ b : Nat) : Int) := Int.ofNat_le.mpr h1
  rwa [Int.natCast_pow, Int.natCast_pow] at h2
theorem pow_pos2 {a : Nat} : (0 : Int) < 2 ^ a := Int.pow_pos (by decide)
theorem pow1_pos {a : Nat} (h : 1 ≤ a) : (0 : Int) < 2 ^ a - 1 := by
  have := pow_le h
  omega
theorem pow1_abs {a k : Nat} (h : a ≤ k) : ((2 : Int) ^ a - 1).natAbs < 2 ^ k := by
  have h1 := pow_le h
  have h2 := pow_pos2 (a := a)
  have h3 : ((2 ^ k : Nat) : Int) = 2 ^ k := by rw [Int.natCast_pow]; rfl
  omega
theorem abs_lt {x : Int} {k : Nat} (h : 0 ≤ x ∧ x < 2 ^ k) : x.natAbs < 2 ^ k := natAbs_lt_pow h.1 h.2
theorem bits_pow1 {a : Nat} (h : 1 ≤ a) : Builtin.Int.intBits (2 ^ a - 1) = a := by
  refine Nat.le_antisymm (PySem.intBits_le_iff.mpr (pow1_abs (Nat.le_refl _))) ?_
  refine Nat.le_of_not_lt fun hlt => ?_
  have h1 := PySem.intBits_le_iff.mp (Nat.le_sub_one_of_lt hlt)
  have h2 := pow_le (show a - 1 ≤ a - 1 from Nat.le_refl _)
  have h3 : (2 : Int) ^ a = 2 * 2 ^ (a - 1) := by
    conv => lhs; rw [show a = (a - 1) + 1 from by omega]
    rw [Int.pow_succ]; omega
  have h4 : ((2 ^ (a - 1) : Nat) : Int) = 2 ^ (a - 1) := by rw [Int.natCast_pow]; rfl
  have h5 := pow_pos2 (a := a - 1)
  omega
theorem digs_zero (n : Nat) : ∀ j, digs n j 0 = List.replicate j 0
  | 0 => rfl
  | j + 1 => by rw [digs, Int.zero_ediv, digs_zero n j, Int.zero_emod, List.replicate_succ]
theorem digs_pad {n k j : Nat} {a : Int} (h : 0 ≤ a ∧ a < 2 ^ (n * k)) : digs n k a ++ List.replicate j 0 = digs n (k + j) a := by
  rw [digs_append, Int.emod_eq_of_lt h.1 h.2, Int.ediv_eq_zero_of_lt h.1 h.2, digs_zero]
theorem digs_figs {n j : Nat} {a : Int} (hn : 0 < n) (h0 : 0 ≤ a) (h : a < 2 ^ (n * j)) : figs n a ≤ j ∧ digs n (figs n a) a ++ List.replicate (j - figs n a) 0 = digs n j a := by
  have h1 : figs n a ≤ j := figs_small hn (natAbs_lt_pow h0 h)
  refine ⟨h1, ?_⟩
  rw [digs_pad ⟨h0, figs_big hn h0⟩, Nat.add_sub_cancel' h1]
theorem rem_pow1 {x : Int} {a : Nat} (h : 1 ≤ a) : 0 ≤ x % (2 ^ a - 1) ∧ x % (2 ^ a - 1) < 2 ^ a := by
  have h1 := pow1_pos h
  have h2 := Int.emod_nonneg x (Int.ne_of_gt h1)
  have h3 := Int.emod_lt_of_pos x h1
  omega
theorem len_figs {n : Nat} {a : Int} : (digs n (figs n a) a).length = figs n a := digs_len _ _ _
end Mine
namespace Mine
section
variable {prog : Program} {w : World} {A : Around} {E : Value → Shared → Prop} {s : Shared} {h₀ : Heap} {L l b : Addr} {m : Str → Option Value} {news : Led} {vs ws : List Value} {k j : Nat}
theorem cat_K {Q : Value → Shared → Prop} (F : Fr h₀ L s.heap m) (N : News h₀ L s.heap news) (hl : (l, listOf vs.toArray k) ∈ news) (hb : (b, listOf ws.toArray j) ∈ news) (hz : vs.length + ws.length < 1000000)
    (h : ∀ D h', Fr h₀ L h' m → News h₀ L h' ((D, listOf (vs ++ ws).toArray 0) :: news) → (∀ p ∈ news, p.1 < D) → Q (.ref D) { s with heap := h' }) : wpAny (model prog w) A (binaryOp .Add (.ref l) (.ref b)) Q E s :=
  add_lists (hsz := by rw [sizeLine_eq]; omega) F N (PySem.IsL.isList (n := k) (N _ hl).1) (PySem.IsL.isList (n := j) (N _ hb).1) fun h' F' N' => h _ h' F' N' fun p hp => Heap.lt_size (N p hp).1
end
end Mine
end
section
open PySem PySem.W PyProof.Rows PySem.Calls
set_option maxRecDepth 100000
namespace Mine
section
variable {prog : Program} {w : World} {A : Around} {E : Value → Shared → Prop} {s : Shared} {env : Env} {h₀ : Heap} {xi xc : Str} {body : List Stmt} {Q : Flow → Shared → Prop}
end
end Mine
namespace Mine
section
variable {h₀ h' : Heap} {L d : Addr} {o o₁ : Obj} {p1 p2 : Addr × Obj} {R Z W : Led} {Jn : (Str → Option Value) → Led → Prop} {m' : Str → Option Value} {s₁ : Shared} {tk : Nat} {Q : Flow → Shared → Prop}
end
end Mine
end
section
open PySem PySem.W PyProof.Rows PySem.Calls
set_option maxRecDepth 100000
namespace Mine
abbrev byteAt (b : Array UInt8) (i : Nat) (v : Value) : Prop := ∃ c u, b[i]? = some c ∧ v = .int (c.toNat : Int) u
section
variable {prog : Program} {w : World} {A : Around} {E : Value → Shared → Prop} {s : Shared}
theorem extend_bytes {R : Result → Shared → Prop} (hh : A.handled = none) (x : Array UInt8) (t : Tok) (S : Addr) (res : Value) (c₀ : Nat) (hS : s.heap.get? S = some { cls := .type "list", data := .seq #[] c₀ })
    (hR : ∀ h' tk acc' c', (∀ b o, b ≠ S → s.heap.get? b = some o → h'.get? b = some o) → h'.get? S = some { cls := .type "list", dict := none, data := .seq acc' c', slots := #[] } →
      ItemsOf (byteAt x) acc' x.size → R (.ok (.ret res)) { s with heap := h', toks := tk }) (hn : x.size ≤ sizeLine) :
    wpAny (model prog w) A.in1 (Builtin.List.listExtendWith (.ref S) (.bytes x t) res)
      (fun fin s' => match fin with | .done f => R (.ok f) s' | .again c' => c'.quiet = true ∧ codeAny (model prog w) A c' R s') (fun e s' => R (.error e) s') s := by
  have hSI : S ≠ s.heap.objs.size := Nat.ne_of_lt (Heap.lt_size hS)
  have hSf : S ∉ [s.heap.objs.size] := fun hm => hSI (List.mem_singleton.mp hm)
  unfold Builtin.List.listExtendWith
  refine wpAny_bind (wpAny_typeOf (T := "bytes") (typeIs_bytes s x t) ?_)
  have h1 : Builtin.List.listSameRef (.ref S) (.bytes x t) = false := rfl
  have h2 : (Value.type "bytes" == Value.type "list") = false := by decide
  have h3 : (Value.type "bytes" == Value.type "tuple") = false := by decide
  simp only [h1, h2, h3, Bool.or_false, Bool.false_eq_true, if_false]
  refine wpAny_bind (PySem.W.KBw.pyIter_bytes ?_)
  refine wpAny_bind (wpAny_holding ?_)
  unfold Builtin.List.listLengthHint
  refine wpAny_bind (wpAny_specialOf (T := "bytes") (v := .bytes x t) (typeIs_bytes _ x t) PySem.W.FB.slot_bytes_len.lookup ?_)
  wp_delta
  refine wpAny_bind (wpAny_isInstance (T := "bytes") (v := .bytes x t) (b := true) (typeIs_bytes _ x t) (by rw [isSubtype_type]; kernel_rfl) ?_)
  show wpAny _ _ (typeOf (Value.bytes x t) >>= _) _ _ _
  refine wpAny_bind (wpAny_typeOf (T := "bytes") (v := .bytes x t) (typeIs_bytes _ x t) ?_)
  refine wpAny_pure ?_
  rw [if_neg (by decide)]
  have W := PySem.W.KBw.walks (prog := prog) (w := w) (A := A.in1) hh s.heap.objs.size x t
  refine wpAny_pure ⟨plainId_quiet F.plain_extend_loop _, codeAny_extend_loopS W.toS hn S hSf res x.size 0 _ #[] c₀ rfl (Nat.zero_le _) ⟨_, Heap.get?_push_size _ rfl, rfl, rfl⟩ (Heap.get?_push_of_some _ hS) (ItemsOf.nil _) fun s' acc' c' hm hS' hacc => ?_⟩
  rw [Moved.eq_with hm]
  refine hR s'.heap s'.toks acc' c' (fun b ob hb e => hm.heap b ob (fun hmem => ?_) (Heap.get?_push_of_some _ e)) hS' hacc
  rcases List.mem_cons.mp hmem with e' | hmem
  · exact hb e'
  · exact absurd (Heap.lt_size e) (by rw [List.mem_singleton.mp hmem]; exact Nat.lt_irrefl _)
theorem list_init_bytes {R : Result → Shared → Prop} (hh : A.handled = none) (x : Array UInt8) (t : Tok) (S : Addr) (hS : s.heap.get? S = some { cls := .type "list", data := .seq #[] })
    (hR : ∀ h' tk acc' c', (∀ b o, b ≠ S → s.heap.get? b = some o → h'.get? b = some o) → h'.get? S = some { cls := .type "list", dict := none, data := .seq acc' c', slots := #[] } →
      ItemsOf (byteAt x) acc' x.size → R (.ok (.ret .none)) { s with heap := h', toks := tk }) (hn : x.size ≤ sizeLine) :
    wpAny (model prog w) A.in1 (Builtin.«list.__init__» ⟨[.ref S, .bytes x t], []⟩)
      (fun fin s' => match fin with | .done f => R (.ok f) s' | .again c' => c'.quiet = true ∧ codeAny (model prog w) A c' R s') (fun e s' => R (.error e) s') s := by
  show wpAny _ _ (do let old ← Builtin.List.listItems (.ref S); Builtin.List.listUpdate (.ref S) (fun _ => #[]); letGo old.toList.reverse; Builtin.List.listExtendWith (.ref S) (.bytes x t) .none) _ _ s
  refine wpAny_bind ?_
  unfold Builtin.List.listItems
  refine wpAny_bind (wpAny_seqItems hS rfl (wpAny_pure ?_))
  show wpAny _ _ (updateSeq S (fun _ => #[]) >>= fun _ => letGo (#[] : Array Value).toList.reverse >>= fun _ => Builtin.List.listExtendWith (.ref S) (.bytes x t) .none) _ _ s
  refine wpAny_bind (wpAny_updateSeq hS rfl ?_)
  have hS₂ := Heap.get?_update_self (Obj.mapSeq (fun _ => (#[] : Array Value))) hS rfl
  refine wpAny_bind (wpAny_letGo ?_)
  refine extend_bytes hh x t S .none _ hS₂ (fun h' tk acc' c' hk hS' hacc => ?_) hn
  exact hR h' tk acc' c' (fun b o hb e => hk b o hb ((Heap.get?_update_other _ _ (Ne.symm hb)).trans e)) hS' hacc
theorem items_ints {x : Array UInt8} {acc : Array Value} (h : ItemsOf (byteAt x) acc x.size) : IntsAre acc.toList (PySem.W.KBw.bInts x) := by
  have key : ∀ (l : List UInt8) (vs : List Value), vs.length = l.length → (∀ (i : Nat) (v : Value), vs[i]? = some v → ∃ (c : UInt8) (u : Tok), l[i]? = some c ∧ v = Value.int (c.toNat : Int) u) → IntsAre vs (l.map fun c => (c.toNat : Int)) := by
    intro l
    induction l with
    | nil => intro vs hl _; rw [List.length_eq_zero_iff.mp hl]; exact .nil
    | cons c l ih =>
      intro vs hl hv
      cases vs with
      | nil => cases hl
      | cons v vs =>
        obtain ⟨c', u, hc, rfl⟩ := hv 0 v rfl
        simp only [List.getElem?_cons_zero, Option.some.injEq] at hc
        subst hc
        exact .cons _ u (ih vs (by simpa using hl) fun i v' h' => hv (i + 1) v' (by simpa using h'))
  refine key x.toList acc.toList (by rw [Array.length_toList, Array.length_toList]; exact h.1) fun i v hv => ?_
  obtain ⟨c, u, hc, e⟩ := h.2 i v (by rw [← hv, Array.getElem?_toList])
  exact ⟨c, u, by rw [← hc, Array.getElem?_toList], e⟩
theorem list_bytes {h₀ : Heap} {L : Addr} {m : Str → Option Value} {news : Led} {Q : Value → Shared → Prop} {x : Array UInt8} {t : Tok} (hh : A.handled = none) (F : Fr h₀ L s.heap m) (N : News h₀ L s.heap news) (hn : x.size ≤ 1000000)
    (h : ∀ D us c h' tk, Fr h₀ L h' m → News h₀ L h' ((D, listOf (List.toArray us) c) :: news) → (∀ p ∈ news, p.1 < D) → IntsAre us (PySem.W.KBw.bInts x) → Q (.ref D) { s with heap := h', toks := tk }) :
    wpAny (model prog w) A (call (.type "list") [.bytes x t]) Q E s := by
  refine callType_codes (Q₁ := fun obj s₁ => obj = .ref s.heap.objs.size ∧ s₁ = { s with heap := s.heap.push { cls := .type "list", data := .seq #[] } }) PySem.F.called_list (PySem.F.typeCall_list_1 _) PySem.F.entry_list_init
    (code_list_new _ ⟨rfl, rfl⟩) fun obj s₁ h₁ => ?_
  obtain ⟨rfl, rfl⟩ := h₁
  have hS : (s.heap.push { cls := .type "list", data := .seq #[] }).get? s.heap.objs.size = some { cls := .type "list", data := .seq #[] } := Heap.get?_push_size _ rfl
  refine ⟨⟨_, hS, rfl⟩, PySem.F.args_list_init_2 _ _, list_init_bytes (A := A.in1) hh x t _ hS (fun h' tk acc' c' hk hS' hacc => ?_) (by rw [sizeLine_eq]; omega)⟩
  have hk' : ∀ b o, s.heap.get? b = some o → h'.get? b = some o := fun b o e => hk b o (Nat.ne_of_lt (Heap.lt_size e)) (Heap.get?_push_of_some _ e)
  refine ⟨rfl, h _ acc'.toList c' h' tk (F.keeps hk') (news_pushed F N hk' ?_ rfl) (fun p hp => Heap.lt_size (N p hp).1) (items_ints hacc)⟩
  rw [Array.toArray_toList]
  exact hS'
end
end Mine
namespace Mine
local macro_rules | `(tactic| walk_at "none") => `(tactic| fail)
section
variable {prog : Program} {w : World} {A : Around} {E : Value → Shared → Prop} {s : Shared} {h₀ : Heap} {env : Env} {m : Str → Option Value}
theorem For_J {Q : Flow → Shared → Prop} {x : Str} {px pos : Pos} {iter : Expr} {body : List Stmt} (_F : Fr h₀ env.locals s.heap m) (hx : env.kindOf x = some .local)
    (hp : (env.scope.kind == .class || (env.scope.kind == .module && env.locals != env.globals)) = false)
    (h : wpAny (model prog w) A (eval iter env) (fun xv s₁ => wpAny (model prog w) A (pyIter xv) (fun it s₂ => LoopAtV prog w A h₀ env x body Q E it s₂) E s₁) E s)
    (hE : PassesOwn (model prog w) A env E)
    (hs : ∀ x, foldedSetIterable iter env x = pure x := by intro _; rfl) :
    wpAny (model prog w) A (exec (.For (.Name x px) iter body [] pos) env) Q E s := For_invV h₀ hx hp h hs hE
end
end Mine
namespace Mine
theorem name1 {h₀ h : Heap} {L d1 : Addr} {o1 : Obj} {T : Led} {G : Prop} (_ : News h₀ L h ((d1, o1) :: T)) (k : ∀ a, a = d1 → G) : G := k _ rfl
theorem name2 {h₀ h : Heap} {L d1 d2 : Addr} {o1 o2 : Obj} {T : Led} {G : Prop} (_ : News h₀ L h ((d1, o1) :: (d2, o2) :: T)) (k : ∀ a b, a = d1 → b = d2 → G) : G := k _ _ rfl rfl
end Mine
end
section
open PySem PySem.W PyProof.Rows PySem.Calls
set_option maxRecDepth 100000
set_option exponentiation.threshold 6000
namespace Mine
theorem tabs_ne {h₀ h : Heap} {L P P' d : Addr} {Tb T : Led} {vs : Array Value} {k : Nat} (hT : Tabs P P' Tb) (N : News h₀ L h T) (hs : ∀ p ∈ Tb, p ∈ T) (hd : (d, listOf vs k) ∈ T) : ∀ p ∈ Tb, p.1 ≠ d := by
  intro p hp e
  have h1 := (N _ hd).1
  have h2 := (N _ (hs p hp)).1
  rw [e] at h2
  rw [h2] at h1
  have h3 := Option.some.inj h1
  obtain ⟨A, B, rfl, hA, hB⟩ := hT
  have key : ∀ {P : Addr} {li co : Nat} {q : Str} {A : Led}, TabOk P li co q A → p ∈ A → False := by
    intro P li co q A hA hp
    rcases hA with rfl | ⟨c', oc, vs', t, rfl, hd', hv⟩
    · rcases List.mem_singleton.mp hp with rfl
      cases h3
    · rcases List.mem_cons.mp hp with rfl | hp
      · cases h3
      · rcases List.mem_singleton.mp hp with rfl
        have h4 := congrArg Obj.data h3
        rw [hd'] at h4
        cases h4
  rcases List.mem_append.mp hp with hp | hp
  · exact key hA hp
  · exact key hB hp
theorem lt2_mono {a : Int} {k j : Nat} (ha : 0 ≤ a ∧ a < 2 ^ k) (h : k ≤ j) : 0 ≤ a ∧ a < 2 ^ j := ⟨ha.1, Int.lt_of_lt_of_le ha.2 (pow_le h)⟩
theorem small2 {a : Int} {k : Nat} (ha : 0 ≤ a ∧ a < 2 ^ k) (h : k ≤ 10000000) : Small a := small_pow (abs_lt ha) (by unfold big; exact h)
theorem pow2_lt {k j : Nat} (h : k < j) : (0 : Int) ≤ 2 ^ k ∧ (2 : Int) ^ k < 2 ^ j := by
  have h1 := pow_le (show k + 1 ≤ j from h)
  have h2 := pow_pos2 (a := k)
  rw [Int.pow_succ] at h1
  omega
end Mine
namespace Mine
theorem tabs_neN {h₀ h : Heap} {L P P' d : Addr} {Tb T : Led} {o : Obj} (hT : Tabs P P' Tb) (N : News h₀ L h T) (hs : ∀ p ∈ Tb, p ∈ T) (hd : (d, o) ∈ T) (hc : o.cls ≠ .none) (hn : NotCode o) : ∀ p ∈ Tb, p.1 ≠ d := by
  intro p hp e
  have h1 := (N _ hd).1
  have h2 := (N _ (hs p hp)).1
  rw [e] at h2
  rw [h2] at h1
  have h3 := Option.some.inj h1
  obtain ⟨A, B, rfl, hA, hB⟩ := hT
  have key : ∀ {P : Addr} {li co : Nat} {q : Str} {A : Led}, TabOk P li co q A → p ∈ A → False := by
    intro P li co q A hA hp
    rcases hA with rfl | ⟨c', oc, vs', t, rfl, hd', hv⟩
    · rcases List.mem_singleton.mp hp with rfl
      exact hc (congrArg Obj.cls h3.symm)
    · rcases List.mem_cons.mp hp with rfl | hp
      · exact hc (congrArg Obj.cls h3.symm)
      · rcases List.mem_singleton.mp hp with rfl
        have h3' : oc = o := h3
        exact hn vs' q t (h3' ▸ hd') hv
  rcases List.mem_append.mp hp with hp | hp
  · exact key hA hp
  · exact key hB hp
theorem iterN {o : Obj} {T : String} (h : o.cls = .type T ∧ NotCode o) : o.cls ≠ .none := by rw [h.1]; simp
end Mine
namespace Mine
end Mine
namespace Mine
section
variable {prog : Program} {w : World} {A : Around} {E : Value → Shared → Prop} {s : Shared} {h₀ : Heap} {L l : Addr} {m : Str → Option Value} {news : Led} {t u : Tok}
theorem slice_tmpK {value slice : Expr} {vs : List Value} {k a : Nat} {Q : Value → Shared → Prop} (F : Fr h₀ L s.heap m) (N : News h₀ L s.heap news) (hl : (l, listOf vs.toArray k) ∈ news) (ha : a ≤ vs.length) (hz : vs.length ≤ 1000000)
    (h : ∀ D h', Fr h₀ L h' m → News h₀ L h' ((D, listOf (vs.drop a).toArray 0) :: news) → (∀ p ∈ news, p.1 < D) → Q (.ref D) { s with heap := h' })
    (hs : subscripted slice false (.ref l) (.ref s.heap.objs.size) = operate [.ref s.heap.objs.size, .ref l] (getItem (.ref l) (.ref s.heap.objs.size))) :
    wpAny (model prog w) A (subscriptTail value slice (.ref l) (.ref s.heap.objs.size)) Q E { s with heap := s.heap.push { cls := .type "slice", data := .fields #[.int (a : Int) t, .none, .none] } } := by
  have hls : s.heap.IsList l vs.toArray := PySem.IsL.isList (n := k) (N _ hl).1
  refine tail_any (Heap.IsList.typeIs (s := { s with heap := s.heap.push { cls := .type "slice", data := .fields #[.int (a : Int) t, .none, .none] } }) (hls.push _)) list_getitem_lookup
    (wpAny_getItem_list_slice (hls.push _) (Heap.IsSliceOf.new ..) (IsPart.int _ _) IsPart.none .none (by simp) ?_ (by rw [List.size_toArray, sizeLine_eq]; omega)) hs
  have N1 := News.push (F.push { cls := .type "slice", data := .fields #[.int (a : Int) t, .none, .none] }) (N.grown fun _ _ e => Heap.get?_push_of_some _ e) { cls := .type "list", data := .seq (slicePick vs.toArray (some (a : Int)) none none) }
  have e : slicePick vs.toArray (some (a : Int)) none none = (vs.drop a).toArray := by rw [← pick_from ha, Array.toArray_toList]
  rw [e] at N1 ⊢
  rw [Heap.size_push] at N1
  refine h _ _ ((F.push _).push _) ?_ (fun p hp => ?_)
  · show News _ _ _ (((s.heap.push _).objs.size, _) :: _)
    rw [Heap.size_push]
    exact N1
  · show p.1 < (s.heap.push _).objs.size
    rw [Heap.size_push]
    exact Nat.lt_succ_of_lt (Heap.lt_size (N p hp).1)
end
end Mine
end
section
open PySem PySem.W PyProof.Rows PySem.Calls
set_option maxRecDepth 100000
namespace Mine
end Mine
namespace Mine
theorem specX_useQ {prog : Program} {w : World} {K : Frag} {p : Program} {loose : List Str} {mean : ExcName → Option Value} {mg mb : Str → Option Value} {dd uu : Nat} {f : Addr} {vs : List Value} {T : Led} {Post : Value → Led → Prop}
    {dp un : Nat} {gd : Option (List Code)} {cn : Str} {cs : Scope} {a : Addr} {ccd : Value} {cl : List (Str × Addr)} {outer : List Env} {A₀ : Around} {base h₀ : Heap} {L : Addr} {m : Str → Option Value} {s : Shared} {Q E : Value → Shared → Prop}
    (S : SpecX prog w K p loose mean mg mb dd uu f vs T Post) (B : Below A₀ base outer h₀) (F : Fr h₀ L s.heap m) (X : K.In h₀) (N : News h₀ L s.heap T) (Tp : Top p loose mean mg mb h₀) (hk : cs.kind = .function) (hd : dp + dd < recursionLimit) (hu : un + uu < cLine)
    (k : ∀ Q' : Value → Heap → Nat → Prop, (∀ (r : Value) (h' : Heap) (tk' : Nat), Q r { s with heap := h', toks := tk' } → Q' r h' tk') → ∀ (r : Value) (new : Led) (h' : Heap) (tk' : Nat), Fr h₀ L h' m → News h₀ L h' (new ++ T) → (∀ q ∈ T, ∀ p ∈ new, q.1 < p.1) → Post r new → Q' r h' tk') :
    wpX (model prog w) (ktrTop dp un gd cn cs L a ccd cl outer) (call (.ref f) vs) Q E s := S _ _ _ _ _ _ _ _ _ _ _ _ _ _ _ _ _ B F X N Tp hk hd hu (k (fun r h' tk' => Q r { s with heap := h', toks := tk' }) fun _ _ _ h => h)
section
variable {prog : Program} {w : World} {A : Around} {E : Value → Shared → Prop} {s : Shared} {h₀ : Heap} {L l : Addr} {m : Str → Option Value} {news : Led} {ws : List Value} {k : Nat} {ns : List Int}
theorem bytesL_K {Q : Value → Shared → Prop} (hh : A.handled = none) (F : Fr h₀ L s.heap m) (N : News h₀ L s.heap news) (hl : (l, listOf ws.toArray k) ∈ news) (hi : IntsAre ws ns) (hr : ∀ n ∈ ns, 0 ≤ n ∧ n < 256) (hz : ws.length ≤ 1000000)
    (h : ∀ b' t h' tk, PySem.W.KBw.bInts b' = ns → b'.size = ns.length → Fr h₀ L h' m → News h₀ L h' news → Q (.bytes b' t) { s with heap := h', toks := tk }) : wpAny (model prog w) A (call (.type "bytes") [.ref l]) Q E s :=
  PySem.W.KBa.make_K F N hh (PySem.IsL.isList (n := k) (N _ hl).1) hi hr (by rw [← hi.length]; omega) fun h' t' tk F' N' hr' => h _ t' h' tk (PySem.W.KBa.ints_make hr) (byteArr_size ns) F' N'
end
theorem bInts_size {b : Array UInt8} {ks : List Int} (h : PySem.W.KBw.bInts b = ks) : b.size = ks.length := by rw [← h, PySem.W.KBw.ints_length]
theorem range_getD {ks : List Int} {g : Int → Int} : (List.range ks.length).map (fun i => g (ks.getD i 0)) = ks.map g := by
  apply List.ext_getElem
  · simp
  · intro i h1 h2
    simp only [List.length_map, List.length_range] at h1
    simp [List.getD_eq_getElem?_getD, List.getElem?_eq_getElem h1]
end Mine
end
section
open PySem PySem.W PyProof.Rows PySem.Calls
open PySem.Sem (wp)
set_option maxRecDepth 100000
namespace Mine
abbrev Never : Value → Shared → Prop := fun _ _ => False
section
variable {M : Model} {A : Around} {E : Value → Shared → Prop} {s : Shared} {env : Env}
theorem wpX_never {α : Type} {t : Sem α} {Q : α → Shared → Prop} (h : wpX M A t Q Never s) : wpX M A t Q E s := wpX_mono h (fun _ _ q => q) fun _ _ f => f.elim
end
section
variable {prog : Program} {w : World} {A : Around} {E : Value → Shared → Prop} {s : Shared} {env : Env} {h₀ : Heap} {x : Str} {px : Pos} {body : List Stmt} {Q : Flow → Shared → Prop}
end
end Mine
end
section
open PySem PySem.W PyProof.Rows PySem.Calls
open PySem.Sem (wp)
set_option maxRecDepth 100000
namespace Mine
noncomputable def retOf (r : Result) : Sem PySem.Fin := match r with | .ok f => pure (PySem.Fin.done f) | .error e => throw e
theorem point_of {R₁ R₂ : Result → Shared → Prop} (h : ∀ (M : Model) (cd : Code) (s : Shared), codeAny M (callerA.mark none) cd R₁ s → codeAny M (callerA.mark none) cd R₂ s) (p₀ : Program) (w₀ : World) : ∀ r s, R₁ r s → R₂ r s := by
  intro r s hr
  have hc : codeAny ⟨fun _ => retOf r, p₀, w₀⟩ (callerA.mark none) (.call .none ⟨[], []⟩) R₂ s := h _ _ s (fun Γ p e hΓ => by
    rw [wpCode_iff_wp]
    show wp _ Γ (retOf r) _ _ p s
    cases r with
    | ok f => unfold retOf; rw [Sem.wp_pure']; exact hr
    | error e => unfold retOf; rw [Sem.wp_throw]; exact hr)
  have hΓ := caller_in.enter (.call .none ⟨[], []⟩) none default (by intro x; cases x)
  have h2 := hc _ default rfl hΓ
  rw [wpCode_iff_wp] at h2
  cases r with
  | ok f =>
    have h3 : wp _ _ (retOf (.ok f)) _ _ default s := h2
    unfold retOf at h3; rw [Sem.wp_pure'] at h3; exact h3
  | error e =>
    have h3 : wp _ _ (retOf (.error e)) _ _ default s := h2
    unfold retOf at h3; rw [Sem.wp_throw] at h3; exact h3
theorem kn_postX {M : Model} {A : Around} {cd : Code} {s s₁ : Shared} {cw : ClaimW} {cl : Str → Option Addr} {mean : ExcName → Option Value} {args : List WData} {tabs : List (Addr × Addr)} (hT : TabsAt tabs s₁.heap) (hr : ∀ a x, cw.raises a x = false)
    (h : codeX M A cd (fun r s' => GoodW cw cl mean args { s₁ with heap := ghostOf s₁.heap tabs } r s' ∧ GrownAll tabs s'.heap) s) : codeX M A cd (GoodWG cw cl mean args s₁) s :=
  codeX_mono h (point_of (fun M' cd' s' h' => kn_post hT hr h') M.prog M.w)
theorem enter_callX {M : Model} {A : Around} {s : Shared} {f : Value} {pos : List Value} {c : ClaimW} {cl : Str → Option Addr} {mean : ExcName → Option Value} {args : List WData} {s₁ : Shared}
    (h : codeX M A (.call f ⟨pos, []⟩) (GoodWG c cl mean args s₁) s) : wpX M A (PySem.call f pos) (fun v s' => GoodWG c cl mean args s₁ (.ok (.ret v)) s') (fun e s' => GoodWG c cl mean args s₁ (.error e) s') s :=
  wpX_call (codeX_mono h fun res s' g => by rcases g.1 with ⟨v, _, _, rfl, _⟩ | ⟨e, _, _, rfl, _⟩ <;> exact g)
section
variable {prog : Program} {w : World} {A : Around} {s : Shared} {R : Result → Shared → Prop}
theorem call_fullX {name : Str} {params : Arguments} {body : List Stmt} {scope : Scope}
    {dV kV pm cd doc : Value} {a : Addr} {o : Obj} {args : Args} {binds : List (Str × Value)}
    (hroom : A.depth < recursionLimit) (ho : s.heap.get? a = some o) (hdata : o.data = .func { docDef name params body scope pm cd doc with defaults := dV, kwdefaults := kV }) (hlim : s.heap.NoLimit) (hcd : s.heap.CodeRec cd name)
    (hbind : BindsTo s { docDef name params body scope pm cd doc with defaults := dV, kwdefaults := kV } args binds)
    (hloc : ∀ x ∈ binds, scope.names.lookup x.1 = some .local)
    (h : ∀ h₁, Fr s.heap s.heap.objs.size h₁ (fun x => binds.reverse.lookup x) →
      wpX (model prog w) (A.deeper (envOf name scope s.heap.objs.size a cd)) (execs body (envOf name scope s.heap.objs.size a cd))
        (fun f s' => R (.ok (.ret (match f with | .ret v => v | _ => .none))) s') Never
        { s with heap := h₁, toks := s.toks + binds.length })
    (hco : scope.isCoroutine = false := by rfl) (hgen : scope.isGenerator = false := by rfl) (hk : scope.kind = .function := by rfl)
    (hcell : ∀ x ∈ scope.names, x.2 ≠ .cell := by decide) :
    codeX (model prog w) A (.call (.ref a) args) R s := by
  refine codeX_call_function hroom ho hdata hco hgen rfl hcd (hbind _ _ _ _ ?_)
  refine wpAny_newFunctionEnv hcell hloc (fun h₁ hns hsb => ⟨hlim.fresh _ hsb, codeX_func (wpX_never ?_)⟩) hk
  have hk₁ : ∀ b o, s.heap.get? b = some o → h₁.get? b = some o := fun b o e => hsb.extBut b o (Nat.ne_of_lt (Heap.lt_size e)) (Heap.get?_push_of_some _ e)
  exact h h₁ ⟨hns, hk₁, Nat.le_refl _⟩
end
end Mine
namespace Mine
section
variable {M : Model} {A : Around} {E : Value → Shared → Prop} {s : Shared} {env : Env}
end
end Mine
end
section
open PySem PySem.W PyProof.Rows PySem.Calls
open PySem.Sem (wp)
set_option maxRecDepth 100000
namespace Mine
theorem wp_of_wpX {M : Model} {t : Sem PySem.Fin} {R : Result → Shared → Prop} {s : Shared}
    (h : wpX M callerA t (fun fin s' => ∃ f, fin = .done f ∧ R (.ok f) s') (fun e s' => R (.error e) s') s) (p : Pos) :
    wp M ⟨.builtin "claim.caller" {}, none, none, [], none⟩ t (Sem.finPost M ⟨.builtin "claim.caller" {}, none, none, [], none⟩ R) (fun e _ s' => R (.error e) s') p s := by
  refine Sem.wp_mono M _ t (fun fin p' s' h' => ?_) (fun _ _ _ h' => h') p s (h _ p (fun _ hx => nomatch hx) (show badIds.contains "claim.caller" = false from by decide +kernel) caller_in)
  obtain ⟨f, rfl, hf⟩ := h'
  exact hf
abbrev WalkX (q : Program) (loose : List Str) (XP : (Str → Option Value) → Heap → Prop) (YP : World → Heap → Prop) (r : RowW) (d : DefRec) (kwd : List (Str × Expr)) : Prop :=
  ∀ (w : World) (s₀ s₁ : Shared) (mg mb : Str → Option Value), Ground q loose r.records XP w s₀ mg mb s₁.heap → YP w s₁.heap → ∀ (a : Addr) (o : Obj) (pm cd doc dV kV : Value), s₁.heap.get? a = some o →
    o.data = .func { docDef d.name d.params d.body d.scope pm cd doc with defaults := dV, kwdefaults := kV } → s₁.heap.CodeRec cd d.name → Dflts mg s₁.heap d.params kwd dV kV → mg d.name = some (.ref a) → s₁.gens = #[] →
    ∀ (args : List WData) (vals : List Value) (as : List Addr), r.claim.pre args = true → WData.layableAll args = true → ReadsAllW r.records (classAt s₀.heap) s₁.heap vals args as → WellAll w.params s₁.heap vals args → (∀ a ∈ as, (a == sysModules) = false) →
      wpX (model r.prog w) callerA (PySem.call (.ref a) vals) (fun v s' => GoodWG r.claim (classAt s₀.heap) (ExcName.means s₀.heap) args s₁ (.ok (.ret v)) s')
        (fun e s' => GoodWG r.claim (classAt s₀.heap) (ExcName.means s₀.heap) args s₁ (.error e) s') s₁
abbrev LeftX (p q : Program) (loose : List Str) (Xt : Shared → Bool) {α : Type} (Yf : Shared → α) (Ya : World → α) (N : Nat) : Prop := LeftO p q loose Xt Yf Ya N true
theorem PySem.W.holds_open {r : OpenRow} {q : Program} {loose : List Str} {Xt : Shared → Bool} {XP : (Str → Option Value) → Heap → Prop} {α : Type} {Yf : Shared → α} {Ya : World → α} {YP : World → Heap → Prop} {d : DefRec} {kwd : List (Str × Expr)} {N : Nat}
    (left : LeftX r.prog q loose Xt Yf Ya N) (hY : ∀ w s, Yf s = Ya w → YP w s.heap) (hYk : ∀ w h h', YP w h → (∀ b o, h.get? b = some o → h'.get? b = some o) → YP w h')
    (hX : ∀ s, Xt s = true → XP (s.heap.nsMap mainGlobals) s.heap) (hXk : ∀ mg h h', XP mg h → (∀ b o, h.get? b = some o → h'.get? b = some o) → XP mg h')
    (hdef : defOf q r.name = some (d, kwd)) (hp : r.prog.theDef r.name = some (d.params, d.body, d.scope)) (hk : kwWritten? d.params.kwonlyargs d.params.kw_defaults = some kwd) (hRf : ∀ s, Xt s = true → RecFacts r.records s.heap) (hwr : (!r.writes || r.records.isEmpty) = true)
    (k1 : r.wellSaid = true) (ok : (chainsOk q && opensWell r.prog && (frees r.toRowW && r.within.isEmpty)) = true) (hb : r.prog.bare) (hw : r.toRowW.promised)
    (call : WalkX q loose XP YP r.toRowW d kwd) : r.Holds := by
  refine Classical.byContradiction fun hG' => ?_
  obtain ⟨ok1, k5⟩ := Bool.and_eq_true_iff.mp ok
  obtain ⟨hch, o1⟩ := Bool.and_eq_true_iff.mp ok1
  obtain ⟨k5, k6⟩ := Bool.and_eq_true_iff.mp k5
  obtain ⟨hsame, hu, ha, hap, hm⟩ := frees_parts k5
  refine hG' ?_
  clear hG'
  have hi := ident_freeW hu ha hap
  have hwi : r.toRowW.claim.within = [] := List.isEmpty_iff.mp k6
  refine ⟨k1, hw, ⟨hb, o1, by show r.makers.map _ = []; rw [hm]; rfl⟩, hw.witness, fun w => ?_⟩
  have bh := LeftO.behind (g0 := true) left (XP := fun mg h => XP mg h ∧ RecFacts r.records h) (fun s hs => ⟨hX s hs, hRf s hs⟩) hch w
  refine ⟨bh.1, fun s' hs' => ?_⟩
  refine Classical.byContradiction fun hG' => ?_
  obtain ⟨s₀, hf, hg0, s, hT, hz, hgens, hg, G00, y⟩ := bh.2 s' hs'
  refine hG' ?_
  clear hG'
  have G0 : Ground q loose [] XP w s (s.heap.nsMap mainGlobals) (s.heap.nsMap builtinsNs) s.heap := ⟨G00.T, G00.B, G00.D, G00.TE, G00.TD, G00.W, G00.X.1, G00.cls, G00.has, G00.apart, G00.once, G00.K⟩
  have RF := G00.X.2
  refine ⟨s₀, hf, hg0, s, hT, fun n hn => ?_, RF.1, RF.2.1, ?_⟩
  · obtain rfl : n = r.name := by split at hn <;> simp_all
    exact pinned_of_view hg G0 hdef hp hk
  have hgens : s.gens = #[] := Array.eq_empty_of_size_eq_zero (beq_iff_eq.mp hgens)
  have G : Ground q loose r.records XP w s _ _ s.heap := RF.ground G0
  intro args hpre hlay ord hord
  obtain ⟨⟨vs, s₁⟩, hlaid⟩ := Option.isSome_iff_exists.mp (layAllW_isSome (P := w.params) (ord := ord) G.has args r.args s (pre_splitW hpre).1)
  have keeps := layAllW_keeps _ _ _ hlaid
  have hal := layAllW_rest _ _ _ hlaid
  refine Classical.byContradiction fun hG' => ?_
  obtain ⟨as, hrd, hin, hold⟩ := reads_layAllW hord _ _ _ hlaid hlay s₁.heap (fun _ _ e => e)
  refine hG' ?_
  clear hG'
  have L : Laid r.records w s s₁ args vs as := ⟨⟨ord, hord, hlaid⟩, hrd, hin, hold, keeps, hal.1.trans hgens, hal.2.2.1⟩
  have G₁ := G.keeps hXk keeps
  refine Classical.byContradiction fun hG' => ?_
  obtain ⟨a, o, pm, cd, doc, dV, kV, h1, h2, h3, h4, h5⟩ := G₁.fn hdef
  refine hG' ?_
  clear hG'
  have hcall := call w s s₁ _ _ G₁ (hYk _ _ _ (hY w s y) keeps) a o pm cd doc dV kV h2 h3 h4 h5 (defOf_name hdef ▸ h1) L.gens args vs as hpre hlay L.reads L.well (L.low G.low)
  have hlifeX : s₁.asleep := Shared.asleep_of_life hal.2.2.2 hz
  have hend : ∀ (x : Result) (z : Shared), GoodWG r.toRowW.claim (classAt s.heap) (ExcName.means s.heap) args s₁ x z →
      (r.toRowW.claim.Ends s args vs s₁ x z ∧ z.os = s.os ∧ (r.writes = true → namesKept r.prog r.keeps s.heap z.heap ∧ ∀ x ∈ r.records, ∀ a, classAt s.heap x.1 = some a → recordClass z.heap a x.1 (x.2.map (·.1)) = true)) ∧ leftWithCleanup z.gens = false := fun x z g => by
    have e := g.laid (c := r.toRowW.claim) hsame hwi hi L
    exact ⟨⟨e.1, e.2.1, fun q => ⟨namesKept_of hT hg r.keeps keeps g.2.1.old, noTable hwr q⟩⟩, leftWithCleanup_false_of_bare e.2.2⟩
  refine Classical.byContradiction fun hG' => ?_
  obtain ⟨n, x, z₁, z₂, hs, hn, hfo, hR⟩ := wp_halts_full (M := model r.prog w) hlifeX
    (wp_of_wpX (R := fun x z => (r.toRowW.claim.Ends s args vs s₁ x z ∧ z.os = s.os ∧ (r.writes = true → namesKept r.prog r.keeps s.heap z.heap ∧ ∀ x ∈ r.records, ∀ a, classAt s.heap x.1 = some a → recordClass z.heap a x.1 (x.2.map (·.1)) = true)) ∧ leftWithCleanup z.gens = false)
      (t := do match ← nsGet mainNs r.name with
        | some f => do ret (← PySem.call f vs)
        | none => unsupported "claim.caller:no-such-global")
      (wpX_bindA (wpAny_nsGet G₁.T.g (by
        rw [h1]
        exact wpX_bind (wpX_mono hcall (fun v z g => wpX_pure ⟨_, rfl, hend _ _ g⟩) fun e z g => hend _ _ g)))) default)
  obtain ⟨eh, _, _, eo, _⟩ := Shared.forget_eq hfo
  obtain ⟨hc, hos, hkp⟩ := hR
  refine hG' ?_
  clear hG'
  have hcase := hc.congr eh
  have hlife := (runN_life _ _ _ hn).trans hal.2.2.2
  refine ⟨vs, s₁, hlaid, n, _, z₂, hs, ?_, (fun _ i x hx => by rw [hgens] at hx; simp at hx), fun q => by rw [eh]; exact hkp q, by rw [hlife], Shared.rest_eq (eo.trans hos)⟩
  rcases hcase with ⟨v, rfl, d1, d2, d3, d4, d5⟩ | ⟨e, ob, cls, rfl, d1, d2, d3, d4, d5⟩
  · exact .inl ⟨v, rfl, d1, d2, d3, fun b o y _ => d4 b o y, d5⟩
  · exact .inr ⟨e, ob, cls, rfl, d1, d2, d3, d4, fun b o y _ => d5 b o y⟩
end Mine
end
section
open PySem PySem.W PyProof.Rows
namespace Mine
set_option maxRecDepth 100000 in
set_option maxHeartbeats 8000000 in
open_top hd for PySem.Challenge.rw_wf0044_02
end Mine
end
open PySem PySem.W PyProof.Rows in
theorem Mine.topOff : True := by
  w_top off
  exact trivial

section
open PySem PySem.W PyProof.Rows PySem.Calls
set_option maxRecDepth 100000
namespace Mine
local macro_rules | `(tactic| k_all) => `(tactic| assumption)
local macro_rules | `(tactic| walk_at "setItem ref int") => `(tactic| (k_here; refine Stop.mk ?_))
local macro_rules | `(tactic| walk_at "subscriptTail") => `(tactic| (k_here; refine Stop.mk ?_))
local macro_rules | `(tactic| walk_at "pyIter ref") => `(tactic| (k_here; refine Stop.mk ?_))
set_option maxHeartbeats 8000000 in
theorem bs_spec (w : World) (loose mean mg mb) (T : Led) (b : Array UInt8) (width : Int) (t1 t2 : Tok) (hb : 0 < b.size ∧ b.size < 1000) (hw : 0 < width ∧ width < 1000) (q : Nat) (hq : (b.size : Int) = q * width) :
   SpecX PySem.Challenge.pw_wf0044_02 w (Mine.hd.heap_39 w.params) topProg loose mean mg mb 5 20 21 [.bytes b t1, .int width t2] T (fun v new => ∃ t, v = .bytes (bswOut b width.toNat q) t ∧ new = []) := by
  unfold SpecX
  intro dp un gd cn cs a ccd cl outer A₀ base h₀ L m s Q E B F X N Tp hk hd hu hret
  refine wpX_call ?_
  have hk0 : (PySem.Challenge.rw_wf0044_02 = PySem.Challenge.rw_wf0044_02 ∧ Mine.hd.heap_39 = Mine.hd.heap_39) := by (k_fill; exact ⟨rfl, rfl⟩)
  clear hk0
  refine' code_defX ?k1 ?k2 ?k3 ?k4 ?k5 ?kA ?kF ?kK ?k6 ?k7 ?k8 ?k9 ?kB ?_ ?c2 ?c3 ?c4 ?c5
  case kA => exact rfl
  case kF => exact rfl
  case kK => assumption
  case k1 => k_asm
  case k2 => k_asm
  case k3 => k_asm
  case k4 => k_asm
  case k5 => k_asm
  case k6 => k_dflt k_is
  case k7 => k_dflt k_is
  case k8 => ktr_room
  case k9 => exact BindsTo.of_eq rfl
  case c5 => decide
  case kB => exact locs rfl
  case c2 => exact rfl
  case c3 => exact rfl
  case c4 => exact rfl
  intro g' L' h' FG' F' N' B' X' T'
  (try dsimp only)
  refine wpX_execs_cons (wpX_Assign_Name (wpX_Call ?_))
  k_steps
  refine callWithX_type1 ?_
  k_steps
  refine ba_call rfl (by omega) (by omega) ?_
  intro d h2 tk2 hd2 hk2 ho2
  (rename Fr _ _ _ _ => F2)
  (rename News _ _ _ _ => N2)
  have F3 := F2.grownK hk2
  have hlt : L' < d := Nat.lt_of_lt_of_le F2.ns.lt hd2
  have N3 : News g' L' h2 ((d, baObj (Array.replicate (b.size : Int).toNat 0)) :: T) := fun p hp => by
    rcases List.mem_cons.mp hp with rfl | hp
    · exact ⟨ho2, Nat.ne_of_gt hlt, Heap.get?_none_of_le (Nat.le_trans F2.above (Nat.le_of_lt hlt))⟩
    · exact ⟨hk2 _ _ (N2 p hp).1, (N2 p hp).2⟩
  have lT : ∀ p ∈ T, p.1 < d := fun p hp => Nat.lt_of_lt_of_le (Heap.lt_size (N2 p hp).1) hd2
  clear F2 N2
  k_steps
  refine wpX_of_any ?_
  k_steps
  refine Stop.in ?_
  refine iter_rangeD [Str.ofString "i", Str.ofString "j"] (fun i o => o = baObj (bswOut b width.toNat i)) rfl (by assumption) ?_ (n := q) ?_ (by assumption) (by assumption) ?_ ?_ ?_
  · exact range_small' ⟨by omega, by omega⟩ ⟨by omega, by omega⟩ ⟨by omega, by omega⟩
  · exact range_size' (by omega) hq
  · exact bsw0
  · intro I i t' u o h3 tk3 it hi ho hdI hTI hTI2 hdI2 hic F3 N3
    subst ho
    obtain ⟨iv, hiv⟩ : ∃ iv : Int, iv = 0 + (i : Int) * width := ⟨_, rfl⟩
    have hiv0 : 0 ≤ iv := by rw [hiv, Int.zero_add]; exact Int.mul_nonneg (by omega) (by omega)
    have hiv1 : iv + width ≤ b.size := by
      rw [hiv, hq, Int.zero_add]
      have : ((i : Int) + 1) * width ≤ q * width := Int.mul_le_mul_of_nonneg_right (by omega) (by omega)
      rw [Int.add_mul, Int.one_mul] at this
      exact this
    have hivN : iv = ((i * width.toNat : Nat) : Int) := by
      rw [hiv, Int.natCast_mul, Int.toNat_of_nonneg (by omega), Int.zero_add]
    rw [← hiv] at F3
    have hTd : ∀ p ∈ T, p.1 ≠ d := fun p hp => Nat.ne_of_lt (lT p hp)
    have hsz := bswOut_size b width.toNat i
    clear hiv
    k_steps
    refine Stop.in ?_
    (rename News _ _ _ _ => N4)
    refine iter_rangeD [Str.ofString "j"] (fun j o => o = baObj (bswIn b width.toNat i (bswOut b width.toNat i) j)) rfl (by assumption) (range_small' ⟨by omega, by omega⟩ ⟨by omega, by omega⟩ ⟨by omega, by omega⟩) (n := width.toNat) (range_size1 (by omega)) (by assumption) (news_swap N4) rfl ?_ ?_
    · intro I2 j t2 u2 o2 h4 tk4 it2 hj ho2 hdI3 hTI3 hTI4 hdI4 hic2 F5 N5
      subst ho2
      have hT2 : ∀ p ∈ (I, it) :: T, p.1 ≠ d := fun p hp => by
        rcases List.mem_cons.mp hp with rfl | hp
        · exact Ne.symm hdI
        · exact hTd p hp
      have hsz2 := bswIn_size b width.toNat i (bswOut b width.toNat i) j
      have hjw : (j : Int) < width := by omega
      k_steps
      refine Stop.in ?_
      first | ((with_reducible show wpAny _ _ (subscriptTail _ _ (Value.bytes _ _) (Value.int _ _)) _ _ _); (refine item_bK (by omega) (by omega) ?_)) | fail
      k_steps
      refine Stop.in ?_
      first | ((with_reducible show wpAny _ _ (setItem (Value.ref _) (Value.int _ _) (Value.int _ _)) _ _ _); k_dflt (refine' setItem_baK ?y2k1 ?y2k2 ?y2k3 ?y2k5 ?y2k6 ?_; (case y2k1 => k_asm); (case y2k2 => k_asm); (case y2k3 => k_upd)); (case y2k5 => (show _; omega)); (case y2k6 => exact byte_rng _); k_whole; intro h' F' N'; (try k_sweep)) | fail
      k_steps
      refine TurnD.fin (by assumption) (by assumption) ?_ ?_
      · repeat (first | exact map_base | refine map_peel (by decide) ?_)
      · rw [bswIn]
        have e1 : (iv + width - 1 - (0 + (j : Int) * 1)).toNat = i * width.toNat + width.toNat - 1 - j := by omega
        have e2 : (iv + (0 + (j : Int) * 1)).toNat = i * width.toNat + j := by omega
        rw [e1, e2]
        simp
    · intro u2 o2 h4 tk4 ho2 F5 N5
      subst ho2
      k_steps
      refine TurnD.fin (by assumption) (news_swap (by assumption)) ?_ ?_
      · repeat (first | exact map_base | refine map_inner (by decide) ?_ | refine map_peel (by decide) ?_)
      · rfl
  · intro u o h3 tk3 ho F3 N3
    subst ho
    have hsz := bswOut_size b width.toNat q
    k_steps
    refine bytes_baK rfl (by assumption) (by assumption) (.head _) (by omega) fun t tk => ?_
    k_steps
    (rename News _ _ _ _ => Nl)
    exact hret0 hret (by assumption) (fun p hp => Nl p (.tail _ hp)) ⟨_, rfl, rfl⟩
end Mine
end
section
open PySem PySem.Float64
set_option maxRecDepth 100000
set_option exponentiation.threshold 6000
namespace Mine
theorem cut53 : ∀ q : Nat, ∃ e c : Nat, c < 2 ^ 53 ∧ (2 ^ 52 ≤ c ∨ e = 0) ∧ c * 2 ^ e ≤ q ∧ q < c * 2 ^ e + 2 ^ e := by
  intro q
  induction q using Nat.strongRecOn with
  | ind q ih =>
    by_cases h : q < 2 ^ 53
    · exact ⟨0, q, h, .inr rfl, by omega, by omega⟩
    · obtain ⟨e, c, h1, h2, h3, h4⟩ := ih (q / 2) (by omega)
      have hp : (2 : Nat) ^ (e + 1) = 2 * 2 ^ e := by rw [Nat.pow_succ, Nat.mul_comm]
      have hm : c * (2 * 2 ^ e) = 2 * (c * 2 ^ e) := by ac_rfl
      refine ⟨e + 1, c, h1, .inl ?_, ?_, ?_⟩
      · rcases h2 with h2 | rfl
        · exact h2
        · simp only [Nat.pow_zero, Nat.mul_one] at h3 h4
          omega
      · rw [hp, hm]; omega
      · rw [hp, hm]; omega
theorem close_to {q : Nat} (hq : q ≤ 2 ^ 1086) : ∃ t', V t' ≤ q ∧ q < V t' + 2 ^ 1034 := by
  obtain ⟨e, c, h1, h2, h3, h4⟩ := cut53 q
  have hV : V (e * 2 ^ 52 + c) = c * 2 ^ e := V_at (Nat.le_of_lt h1) h2
  have he : 2 ^ e ≤ 2 ^ 1034 := by
    refine Nat.pow_le_pow_right (by decide) ?_
    rcases h2 with h2 | rfl
    · refine Nat.le_of_not_lt fun hlt => ?_
      have h5 : 2 ^ 52 * 2 ^ 1035 ≤ c * 2 ^ e := Nat.mul_le_mul h2 (Nat.pow_le_pow_right (by decide) hlt)
      have h6 : (2 : Nat) ^ 1087 ≤ 2 ^ 1086 := Nat.le_trans (by rw [← Nat.pow_add] at h5; exact h5) (Nat.le_trans h3 hq)
      have h7 : (2 : Nat) ^ 1086 < 2 ^ 1087 := Nat.pow_lt_pow_right (by decide) (by decide)
      omega
    · exact Nat.zero_le _
  exact ⟨_, by rw [hV]; exact h3, by rw [hV]; omega⟩
theorem near_nat {W A B : Nat} (h : (W - A) + (A - W) ≤ B) : W ≤ A + B ∧ A ≤ W + B := by omega
theorem near_div {W D q r A B : Nat} (h : D * q + r = W) (hr : r < D) (q1 : A ≤ D * q) (q2 : D * q + D ≤ A + B) : dist W A ≤ B := by
  unfold dist
  omega
theorem right_near {r : UInt64} {neg : Bool} {W D : Nat} (h : Right r neg W D) (hD : 0 < D) (hb : W ≤ D * 2 ^ 1085) :
    ∃ t m e, decode r = .fin neg m e ∧ val r = sgn neg (V t) ∧ W ≤ D * V t + D * 2 ^ 1034 ∧ D * V t ≤ W + D * 2 ^ 1034 := by
  obtain ⟨t, rfl, h1, h2, h3⟩ := h
  have hq : W / D ≤ 2 ^ 1086 := by
    refine Nat.le_trans (Nat.div_le_of_le_mul hb) ?_
    exact Nat.pow_le_pow_right (by decide) (by decide)
  have hlt : t < infMag := by
    refine Nat.lt_of_le_of_ne h1 fun e => ?_
    have h4 := h2.mp e
    have h5 : 2 * W ≤ D * 2 ^ 1086 := by
      have : (2 : Nat) ^ 1086 = 2 * 2 ^ 1085 := by rw [← Nat.pow_succ']
      rw [this, Nat.mul_left_comm]
      exact Nat.mul_le_mul_left _ hb
    have h6 : D * ((2 ^ 54 - 1) * 2 ^ 2045) ≤ D * 2 ^ 1086 := Nat.le_trans h4 h5
    have h7 := Nat.le_of_mul_le_mul_left h6 hD
    have h8 : (2 : Nat) ^ 1086 < 2 ^ 2045 := Nat.pow_lt_pow_right (by decide) (by decide)
    have h9 : 1 * (2 : Nat) ^ 2045 ≤ (2 ^ 54 - 1) * 2 ^ 2045 := Nat.mul_le_mul_right _ (by decide)
    rw [Nat.one_mul] at h9
    exact absurd (Nat.lt_of_lt_of_le h8 (Nat.le_trans h9 h7)) (Nat.lt_irrefl _)
  obtain ⟨t', k1, k2⟩ := close_to hq
  have hn := (h3 hlt t').1
  have hdm := Nat.div_add_mod W D
  have hml := Nat.mod_lt W hD
  have q1 : D * V t' ≤ D * (W / D) := Nat.mul_le_mul_left _ k1
  have q2 : D * (W / D + 1) ≤ D * (V t' + 2 ^ 1034) := Nat.mul_le_mul_left _ k2
  rw [Nat.mul_add, Nat.mul_add, Nat.mul_one] at q2
  have hd : dist W (D * V t') ≤ D * 2 ^ 1034 := near_div hdm hml q1 q2
  have hd2 := Nat.le_trans hn hd
  unfold dist at hd2
  obtain ⟨m, e, hde, -⟩ := decode_pack neg hlt
  exact ⟨t, m, e, hde, val_pack neg hlt, (near_nat hd2).1, (near_nat hd2).2⟩
end Mine
end
section
open PySem PySem.Float64
set_option maxRecDepth 100000
set_option exponentiation.threshold 6000
namespace Mine
noncomputable def sc : Rat := ((2 ^ 1074 : Nat) : Rat)
noncomputable def eps : Rat := 1 / 1099511627776
theorem sc_pos : 0 < sc := by
  unfold sc
  exact_mod_cast Nat.two_pow_pos 1074
theorem sc_eps : ((2 ^ 1034 : Nat) : Rat) = eps * sc := by
  have h : (2 : Nat) ^ 1034 * 1099511627776 = 2 ^ 1074 := by
    rw [show (1099511627776 : Nat) = 2 ^ 40 from rfl, ← Nat.pow_add]
  have h2 : ((2 ^ 1034 : Nat) : Rat) * 1099511627776 = sc := by
    unfold sc
    exact_mod_cast h
  unfold eps
  generalize ((2 ^ 1034 : Nat) : Rat) = a at *
  generalize sc = b at *
  grind
theorem eps_pos : 0 < eps := by unfold eps; grind
noncomputable def vr (x : UInt64) : Rat := (val x : Rat) / sc
theorem vr_sc (x : UInt64) : vr x * sc = (val x : Rat) := by
  unfold vr
  have := sc_pos
  generalize sc = b at *
  grind
noncomputable def Fn (x : UInt64) : Prop := ∃ a m e, decode x = .fin a m e
theorem right_rat {r : UInt64} {neg : Bool} {W D : Nat} {y : Rat} (h : Right r neg W D) (hD : 0 < D) (hy : y * (D : Rat) * sc = (W : Rat)) (hb : y ≤ 2048) :
    Fn r ∧ ∃ z : Rat, 0 ≤ z ∧ z - y ≤ eps ∧ y - z ≤ eps ∧ vr r = (if neg then -z else z) := by
  have hDr : (0 : Rat) < (D : Rat) := by exact_mod_cast hD
  have hs := sc_pos
  have hDs : 0 < (D : Rat) * sc := Rat.mul_pos hDr hs
  have hb2 : W ≤ D * 2 ^ 1085 := by
    have h1 : (W : Rat) ≤ 2048 * ((D : Rat) * sc) := by
      rw [← hy, Rat.mul_assoc]
      exact Rat.mul_le_mul_of_nonneg_right hb (Rat.le_of_lt hDs)
    have h2 : W ≤ 2048 * (D * 2 ^ 1074) := by
      unfold sc at h1
      exact_mod_cast h1
    have h3 : (2 : Nat) ^ 1085 = 2048 * 2 ^ 1074 := by
      rw [show (2048 : Nat) = 2 ^ 11 from rfl, ← Nat.pow_add]
    rw [h3, Nat.mul_left_comm]
    exact h2
  obtain ⟨t, m, e, hd, hv, h1, h2⟩ := right_near h hD hb2
  have h1' : (W : Rat) ≤ (D : Rat) * (V t : Rat) + (D : Rat) * (eps * sc) := by
    rw [← sc_eps]
    exact_mod_cast h1
  have h2' : (D : Rat) * (V t : Rat) ≤ (W : Rat) + (D : Rat) * (eps * sc) := by
    rw [← sc_eps]
    exact_mod_cast h2
  refine ⟨⟨_, _, _, hd⟩, (V t : Rat) / sc, ?_, ?_, ?_, ?_⟩
  · have h0 : (0 : Rat) ≤ (V t : Rat) := by exact_mod_cast Nat.zero_le (V t)
    generalize (V t : Rat) = v at *
    rw [Rat.div_def]
    exact Rat.mul_nonneg h0 (Rat.le_of_lt (Rat.inv_pos.mpr hs))
  · have e1 : (V t : Rat) = (V t : Rat) / sc * sc := by
      generalize (V t : Rat) = v at *
      generalize sc = b at *
      grind
    rw [← hy] at h2'
    generalize (V t : Rat) / sc = z at *
    rw [e1] at h2'
    refine Rat.not_lt.mp fun hlt => ?_
    have h3 := Rat.mul_lt_mul_of_pos_right hlt hDs
    generalize (D : Rat) = d at *
    generalize sc = b at *
    grind
  · have e1 : (V t : Rat) = (V t : Rat) / sc * sc := by
      generalize (V t : Rat) = v at *
      generalize sc = b at *
      grind
    rw [← hy] at h1'
    generalize (V t : Rat) / sc = z at *
    rw [e1] at h1'
    refine Rat.not_lt.mp fun hlt => ?_
    have h3 := Rat.mul_lt_mul_of_pos_right hlt hDs
    generalize (D : Rat) = d at *
    generalize sc = b at *
    grind
  · unfold vr
    rw [hv]
    unfold sgn
    cases neg
    · simp [Rat.intCast_natCast]
    · simp [Rat.div_def, Rat.neg_mul, Rat.intCast_natCast]
theorem prod_le {u v P Q : Rat} (h1 : u ≤ P) (h2 : -u ≤ P) (h3 : v ≤ Q) (h4 : -v ≤ Q) : u * v ≤ P * Q ∧ -(u * v) ≤ P * Q := by
  have a1 := Rat.mul_nonneg (show 0 ≤ P - u by grind) (show 0 ≤ Q + v by grind)
  have a2 := Rat.mul_nonneg (show 0 ≤ P + u by grind) (show 0 ≤ Q - v by grind)
  have a3 := Rat.mul_nonneg (show 0 ≤ P - u by grind) (show 0 ≤ Q - v by grind)
  have a4 := Rat.mul_nonneg (show 0 ≤ P + u by grind) (show 0 ≤ Q + v by grind)
  constructor <;> grind
theorem mul_close {x y a b p q A B : Rat} (h1 : x - a ≤ p) (h2 : a - x ≤ p) (h3 : y - b ≤ q) (h4 : b - y ≤ q) (ha : a ≤ A) (ha' : -a ≤ A) (hb : b ≤ B) (hb' : -b ≤ B) :
    x * y - a * b ≤ A * q + B * p + p * q ∧ a * b - x * y ≤ A * q + B * p + p * q := by
  have k1 := prod_le ha ha' (show y - b ≤ q from h3) (show -(y - b) ≤ q by grind)
  have k2 := prod_le hb hb' (show x - a ≤ p from h1) (show -(x - a) ≤ p by grind)
  have k3 := prod_le (show x - a ≤ p from h1) (show -(x - a) ≤ p by grind) (show y - b ≤ q from h3) (show -(y - b) ≤ q by grind)
  constructor <;> grind
noncomputable def Ap (x : UInt64) (y e : Rat) : Prop := Fn x ∧ vr x - y ≤ e * eps ∧ y - vr x ≤ e * eps
theorem Ap.self {x : UInt64} (h : Fn x) : Ap x (vr x) 0 := ⟨h, by grind, by grind⟩
theorem right_ap {r : UInt64} {neg : Bool} {W D : Nat} {y s : Rat} (h : Right r neg W D) (hD : 0 < D) (hy : y * (D : Rat) * sc = (W : Rat)) (hb : y ≤ 2048) (hs : s = if neg then -y else y) : Ap r s 1 := by
  obtain ⟨hf, z, h0, h1, h2, h3⟩ := right_rat h hD hy hb
  subst hs
  refine ⟨hf, ?_, ?_⟩
  · rw [h3]; cases neg <;> simp <;> grind
  · rw [h3]; cases neg <;> simp <;> grind
theorem zero_ap (b : Bool) : Ap (zero b) 0 0 := by
  have hd := decode_pack b (t := 0) (by decide)
  obtain ⟨m, e, hd, -⟩ := hd
  have hv := val_pack b (t := 0) (by decide)
  have h0 : vr (zero b) = 0 := by
    unfold vr zero
    rw [hv, V_zero]
    cases b <;> simp [sgn, Rat.div_def]
  exact ⟨⟨_, _, _, hd⟩, by rw [h0]; grind, by rw [h0]; grind⟩
theorem abs_cast (i : Int) : ((i.natAbs : Nat) : Rat) = if i < 0 then -(i : Rat) else (i : Rat) := by
  split
  · rename_i h
    have : (i.natAbs : Int) = -i := by omega
    exact_mod_cast this
  · rename_i h
    have : (i.natAbs : Int) = i := by omega
    exact_mod_cast this
theorem vr_neg {x : UInt64} : vr x < 0 ↔ val x < 0 := by
  have hs := sc_pos
  have h := vr_sc x
  constructor
  · intro h1
    have h2 := Rat.mul_lt_mul_of_pos_right h1 hs
    rw [h, Rat.zero_mul] at h2
    exact_mod_cast h2
  · intro h1
    refine Rat.not_le.mp fun h2 => ?_
    have h3 := Rat.mul_nonneg h2 (Rat.le_of_lt hs)
    rw [h] at h3
    have h4 : (0 : Int) ≤ val x := by exact_mod_cast h3
    omega
theorem fin_add {x y : UInt64} (hx : Fn x) (hy : Fn y) (h1 : vr x + vr y ≤ 2048) (h2 : -(vr x + vr y) ≤ 2048) : Ap (add x y) (vr x + vr y) 1 := by
  obtain ⟨a, m, e, hx⟩ := hx
  obtain ⟨b, k, f, hy⟩ := hy
  have hr := add_right hx hy
  have hs := sc_pos
  have hX := vr_sc x
  have hY := vr_sc y
  have hsum : (vr x + vr y) * sc = ((val x + val y : Int) : Rat) := by
    rw [Rat.add_mul, hX, hY]; simp
  by_cases h0 : val x + val y = 0
  · rw [hr.1 h0]
    have h3 : vr x + vr y = 0 := by
      rw [h0] at hsum
      generalize sc = c at *
      have : (vr x + vr y) * c = 0 := by rw [hsum]; rfl
      rcases Rat.mul_eq_zero.mp this with h | h <;> grind
    rw [h3]
    obtain ⟨z1, z2, z3⟩ := zero_ap (a && b)
    have := eps_pos
    exact ⟨z1, by grind, by grind⟩
  · have hR := hr.2 h0
    have ha := abs_cast (val x + val y)
    rw [← hsum] at ha
    by_cases hn : val x + val y < 0
    · rw [if_pos hn] at ha
      refine right_ap (y := -(vr x + vr y)) hR (by decide) (by rw [ha]; simp; grind) h2 ?_
      rw [decide_eq_true hn]; simp
    · rw [if_neg hn] at ha
      refine right_ap (y := vr x + vr y) hR (by decide) (by rw [ha]; simp) h1 ?_
      rw [decide_eq_false hn]; simp
end Mine
end
section
open PySem PySem.Float64
set_option maxRecDepth 100000
set_option exponentiation.threshold 6000
namespace Mine
theorem neg_fn {y : UInt64} (hy : Fn y) : Fn (neg y) ∧ vr (neg y) = -vr y := by
  obtain ⟨b, k, f, hy⟩ := hy
  refine ⟨⟨_, _, _, neg_decode hy⟩, ?_⟩
  unfold vr
  rw [neg_val hy]
  simp [Rat.div_def, Rat.neg_mul]
theorem fin_sub {x y : UInt64} (hx : Fn x) (hy : Fn y) (h1 : vr x - vr y ≤ 2048) (h2 : -(vr x - vr y) ≤ 2048) : Ap (sub x y) (vr x - vr y) 1 := by
  obtain ⟨hn, hv⟩ := neg_fn hy
  have := fin_add hx hn (by rw [hv]; grind) (by rw [hv]; grind)
  rw [hv] at this
  unfold sub
  rw [show vr x - vr y = vr x + -vr y by grind]
  exact this
theorem sgn_cast (a : Bool) (m : Nat) : ((sgn a m : Int) : Rat) = if a then -(m : Rat) else (m : Rat) := by
  unfold sgn
  cases a
  · simp [Rat.intCast_natCast]
  · simp [Rat.intCast_natCast]
theorem vr_abs {x : UInt64} {a : Bool} {m : Nat} {e : Int} (h : decode x = .fin a m e) : ∃ z : Rat, 0 ≤ z ∧ z * sc = ((val x).natAbs : Rat) ∧ vr x = if a then -z else z := by
  have hs := sc_pos
  have hX := vr_sc x
  have h0 : (0 : Rat) ≤ ((val x).natAbs : Rat) := by exact_mod_cast Nat.zero_le _
  have hv : (val x : Rat) = if a then -((val x).natAbs : Rat) else ((val x).natAbs : Rat) := by
    rw [val_natAbs h]
    conv => lhs; rw [val_eq h]
    exact sgn_cast a _
  rw [hv] at hX
  refine ⟨if a then -vr x else vr x, ?_, ?_, ?_⟩
  · cases a
    · simp at hX ⊢
      refine Rat.not_lt.mp fun hl => ?_
      have := Rat.mul_lt_mul_of_pos_right hl hs
      grind
    · simp at hX ⊢
      refine Rat.not_lt.mp fun hl => ?_
      have := Rat.mul_lt_mul_of_pos_right hl hs
      grind
  · cases a
    · simpa using hX
    · simp at hX ⊢; grind
  · cases a
    · simp
    · simp
theorem fin_mul {x y : UInt64} (hx : Fn x) (hy : Fn y) (h1 : vr x * vr y ≤ 2048) (h2 : -(vr x * vr y) ≤ 2048) : Ap (mul x y) (vr x * vr y) 1 := by
  obtain ⟨a, m, e, hx⟩ := hx
  obtain ⟨b, k, f, hy⟩ := hy
  have hr := mul_right hx hy
  obtain ⟨u, u0, u1, u2⟩ := vr_abs hx
  obtain ⟨v, v0, v1, v2⟩ := vr_abs hy
  refine right_ap (y := u * v) (s := vr x * vr y) hr (Nat.two_pow_pos _) ?_ ?_ ?_
  · rw [show (((2 ^ 1074 : Nat) : Nat) : Rat) = sc from rfl]
    have : (((val x).natAbs * (val y).natAbs : Nat) : Rat) = ((val x).natAbs : Rat) * ((val y).natAbs : Rat) := by simp
    rw [this, ← u1, ← v1]
    generalize sc = c
    grind
  · rw [u2, v2] at h1 h2
    cases a <;> cases b <;> simp at h1 h2 <;> grind
  · rw [u2, v2]
    cases a <;> cases b <;> simp <;> grind
theorem fin_div {x y : UInt64} (hx : Fn x) (hy : Fn y) (h0 : vr y ≠ 0) {s : Rat} (hs : s * vr y = vr x) (h1 : s ≤ 2048) (h2 : -s ≤ 2048) : Ap (div x y) s 1 := by
  obtain ⟨a, m, e, hx⟩ := hx
  obtain ⟨b, k, f, hy⟩ := hy
  obtain ⟨u, u0, u1, u2⟩ := vr_abs hx
  obtain ⟨v, v0, v1, v2⟩ := vr_abs hy
  have hsc := sc_pos
  have hk : k ≠ 0 := by
    rintro rfl
    refine h0 ?_
    rw [val_natAbs hy, Nat.zero_mul] at v1
    have : v = 0 := by
      rcases Rat.mul_eq_zero.mp (show v * sc = 0 by rw [v1]; rfl) with h | h <;> grind
    rw [v2, this]
    cases b <;> simp
  have hvp : 0 < v := by
    refine Rat.not_le.mp fun hl => h0 ?_
    have : v = 0 := by grind
    rw [v2, this]
    cases b <;> simp
  have hr := div_right hx hy hk
  have hvn : 0 < (val y).natAbs := by
    rw [val_natAbs hy]
    exact Nat.mul_pos (Nat.pos_of_ne_zero hk) (Nat.two_pow_pos _)
  refine right_ap (y := if (a != b) then -s else s) (s := s) hr hvn ?_ ?_ ?_
  · have : (((val x).natAbs * 2 ^ 1074 : Nat) : Rat) = ((val x).natAbs : Rat) * sc := by unfold sc; simp
    rw [this, ← u1, ← v1]
    have hu : (if (a != b) then -s else s) * v = u := by
      rw [u2, v2] at hs
      cases a <;> cases b <;> simp at hs ⊢ <;> grind
    rw [← hu]
    generalize (if (a != b) then -s else s) = q
    generalize sc = c
    grind
  · split <;> assumption
  · split <;> grind
theorem int_ap {i : Int} (h1 : (i : Rat) ≤ 2048) (h2 : -(i : Rat) ≤ 2048) : Ap (ofInt i) i 1 := by
  have hr := ofInt_right i
  have ha := abs_cast i
  have e : ((i.natAbs * 2 ^ 1074 : Nat) : Rat) = (i.natAbs : Rat) * sc := by unfold sc; simp
  by_cases hn : i < 0
  · rw [if_pos hn] at ha
    refine right_ap (y := -(i : Rat)) hr (by decide) (by rw [e, ha]; simp) h2 ?_
    rw [decide_eq_true hn]; simp
  · rw [if_neg hn] at ha
    refine right_ap (y := (i : Rat)) hr (by decide) (by rw [e, ha]; simp) h1 ?_
    rw [decide_eq_false hn]; simp
theorem frac_ap {a b : Int} (ha : 0 ≤ a) (hb : 0 < b) {s : Rat} (hs : s * (b : Rat) = (a : Rat)) (h1 : s ≤ 2048) : Ap (ofFrac (decide (a < 0) != decide (b < 0)) a.natAbs b.natAbs) s 1 := by
  rw [decide_eq_false (by omega), decide_eq_false (by omega)]
  have hr : Right (ofFrac (false != false) a.natAbs b.natAbs) (false != false) (a.natAbs * 2 ^ 1074) b.natAbs := ofFrac_right (by omega) rfl (by omega)
  have hA := abs_cast a
  have hB := abs_cast b
  rw [if_neg (by omega)] at hA hB
  refine right_ap (y := s) hr (by omega) ?_ h1 (by simp)
  have e : ((a.natAbs * 2 ^ 1074 : Nat) : Rat) = (a.natAbs : Rat) * sc := by unfold sc; simp
  rw [e, hA, hB, hs]
theorem one_dec : decode 4607182418800017408 = .fin false (2 ^ 52) (-52) := by kernel_rfl
theorem exp_split {e g : Int} (h1 : g ≤ e) (h2 : -1074 ≤ g) : (e + 1074).toNat = (e - g).toNat + (g + 1074).toNat := by
  rw [← Int.toNat_add (Int.sub_nonneg_of_le h1) (by omega), show e - g + (g + 1074) = e + 1074 by omega]
theorem exp_split2 {g : Int} (h1 : g ≤ -52) (h2 : -1074 ≤ g) : (1074 : Nat) = 52 + (-52 - g).toNat + (g + 1074).toNat := by omega
theorem exp_low {e : Int} (h : -1074 ≤ e) : -1074 ≤ min e (-52) := Int.le_min.mpr ⟨h, by decide⟩
theorem fmod_ap {x : UInt64} (hx : Fn x) (h1 : vr x < 1) (h2 : -vr x < 1) : Ap (fmod x 4607182418800017408) (vr x) 1 := by
  obtain ⟨a, m, e, hx⟩ := hx
  have he := decode_ge hx
  obtain ⟨u, u0, u1, u2⟩ := vr_abs hx
  have hs := sc_pos
  have hu1 : u < 1 := by
    rw [u2] at h1 h2
    cases a <;> simp at h1 h2 <;> grind
  have hn : (val x).natAbs < 2 ^ 1074 := by
    have := Rat.mul_lt_mul_of_pos_right hu1 hs
    rw [u1, Rat.one_mul] at this
    unfold sc at this
    exact_mod_cast this
  rw [val_natAbs hx] at hn
  have hlt : m * 2 ^ (e - min e (-52)).toNat < 2 ^ 52 * 2 ^ (-52 - min e (-52)).toNat := by
    have e1 : (e + 1074).toNat = (e - min e (-52)).toNat + (min e (-52) + 1074).toNat := exp_split (Int.min_le_left _ _) (exp_low he)
    have e2 : (1074 : Nat) = 52 + (-52 - min e (-52)).toNat + (min e (-52) + 1074).toNat := exp_split2 (Int.min_le_right _ _) (exp_low he)
    have h3 : (2 : Nat) ^ 1074 = 2 ^ 52 * 2 ^ (-52 - min e (-52)).toNat * 2 ^ (min e (-52) + 1074).toNat := by
      rw [← Nat.pow_add, ← Nat.pow_add, ← e2]
    rw [e1, Nat.pow_add, ← Nat.mul_assoc, h3] at hn
    exact Nat.lt_of_mul_lt_mul_right hn
  have hf : fmod x 4607182418800017408 = ofBin a (m * 2 ^ (e - min e (-52)).toNat) (min e (-52)) := by
    unfold fmod
    rw [hx, one_dec]
    simp only [align, sgn]
    rw [if_neg (by decide)]
    simp only [Bool.false_eq_true, if_false, Int.toNat_natCast]
    rw [Nat.mod_eq_of_lt hlt]
  have hr := ofBin_right (neg := a) (M := m * 2 ^ (e - min e (-52)).toNat) (g := min e (-52)) (exp_low he)
  rw [hf]
  refine right_ap (y := u) hr (by decide) ?_ (by grind) u2
  have e1 : m * 2 ^ (e - min e (-52)).toNat * 2 ^ (min e (-52) + 1074).toNat = (val x).natAbs := by
    rw [val_natAbs hx, Nat.mul_assoc, ← Nat.pow_add]
    rw [← exp_split (Int.min_le_left _ _) (exp_low he)]
  rw [e1, ← u1]
  simp
theorem one_vr : vr 4607182418800017408 = 1 := by
  unfold vr
  rw [val_eq one_dec]
  have h : (2 : Nat) ^ 52 * 2 ^ ((-52 : Int) + 1074).toNat = 2 ^ 1074 := by
    rw [show ((-52 : Int) + 1074).toNat = 1022 from rfl, ← Nat.pow_add]
  rw [h]
  unfold sgn
  have hs := sc_pos
  have : (((2 ^ 1074 : Nat) : Int) : Rat) = sc := by unfold sc; simp
  simp only [Bool.false_eq_true, if_false]
  rw [this]
  generalize sc = c at *
  grind
theorem one_fn : Fn 4607182418800017408 := ⟨_, _, _, one_dec⟩
theorem mod1_ap {x : UInt64} (hx : Fn x) (h1 : vr x < 1) (h2 : -vr x < 1) : ∃ c : Rat, (c = 0 ∨ c = 1) ∧ Ap (divmod x 4607182418800017408).2 (vr x + c) 2 ∧ -(2 * eps) ≤ vr (divmod x 4607182418800017408).2 := by
  obtain ⟨f1, f2, f3⟩ := fmod_ap hx h1 h2
  have he := eps_pos
  have hd : (divmod x 4607182418800017408).2 = if isZero (fmod x 4607182418800017408) then copysign (zero false) 4607182418800017408 else if lt 4607182418800017408 (zero false) != lt (fmod x 4607182418800017408) (zero false) then add (fmod x 4607182418800017408) 4607182418800017408 else fmod x 4607182418800017408 := by
    unfold divmod
    simp only
    split
    · rfl
    · split <;> rfl
  rw [hd]
  generalize fmod x 4607182418800017408 = m at *
  have hz0 : vr (zero false) = 0 := by
    obtain ⟨-, z2, z3⟩ := zero_ap false
    grind
  split
  · rename_i hz
    have hm : vr m = 0 := by
      unfold isZero at hz
      split at hz
      · rename_i a e hdm
        unfold vr
        rw [val_eq hdm, Nat.zero_mul]
        cases a <;> simp [sgn, Rat.div_def]
      · cases hz
    have hc : copysign (zero false) 4607182418800017408 = zero false := by kernel_rfl
    rw [hc]
    refine ⟨0, .inl rfl, ⟨(zero_ap false).1, ?_, ?_⟩, ?_⟩ <;> rw [hz0] <;> grind
  · have hl1 : lt 4607182418800017408 (zero false) = false := by kernel_rfl
    rw [hl1]
    have hl2 : lt m (zero false) = decide (vr m < 0) := by
      obtain ⟨a, k, e, hdm⟩ := f1
      obtain ⟨b, k', e', hdz⟩ := (zero_ap false).1
      have hvz : val (zero false) = 0 := by
        have := vr_sc (zero false)
        rw [hz0, Rat.zero_mul] at this
        exact_mod_cast this.symm
      unfold lt
      rw [cmp_right hdm hdz, hvz]
      by_cases hn : val m < 0
      · rw [Int.compare_eq_lt.mpr hn, decide_eq_true (vr_neg.mpr hn)]; rfl
      · rw [decide_eq_false (fun h => hn (vr_neg.mp h))]
        rcases Int.lt_trichotomy (val m) 0 with h | h | h
        · exact absurd h hn
        · rw [h]; rfl
        · rw [Int.compare_eq_gt.mpr h]; rfl
    rw [hl2]
    by_cases hn : vr m < 0
    · rw [decide_eq_true hn]
      have h3 := fin_add f1 one_fn (by rw [one_vr]; grind) (by rw [one_vr]; unfold eps at *; grind)
      rw [one_vr] at h3
      obtain ⟨g1, g2, g3⟩ := h3
      simp only [Bool.false_bne, if_true]
      refine ⟨1, .inr rfl, ⟨g1, ?_, ?_⟩, ?_⟩ <;> grind
    · rw [decide_eq_false hn]
      simp only [bne_self_eq_false, Bool.false_eq_true, if_false]
      refine ⟨0, .inl rfl, ⟨f1, ?_, ?_⟩, ?_⟩ <;> grind
theorem sc_def : sc = ((2 ^ 1074 : Nat) : Rat) := rfl
theorem pow2_nn (n : Nat) : (0 : Int) ≤ 2 ^ n := Int.le_of_lt (Int.pow_pos (by decide))
theorem const_vr {x : UInt64} {m : Nat} {e : Int} {a b : Nat} (hd : decode x = .fin false m e) (h : m * 2 ^ (e + 1074).toNat * b = a * 2 ^ 1074) : Fn x ∧ vr x * (b : Rat) = (a : Rat) := by
  refine ⟨⟨_, _, _, hd⟩, ?_⟩
  have hs := sc_pos
  have h1 := vr_sc x
  have h2 : (val x : Rat) * (b : Rat) = (a : Rat) * sc := by
    rw [val_eq hd]
    unfold sgn
    simp only [Bool.false_eq_true, if_false]
    rw [Rat.intCast_natCast, sc_def]
    exact_mod_cast h
  rw [← h1] at h2
  generalize sc = c at *
  have h3 : (vr x * b - a) * c = 0 := by grind
  rcases Rat.mul_eq_zero.mp h3 with h | h <;> grind
theorem two_c : Fn 4611686018427387904 ∧ vr 4611686018427387904 = 2 := by
  obtain ⟨h1, h2⟩ := const_vr (x := 4611686018427387904) (m := 2 ^ 52) (e := -51) (a := 2) (b := 1) (by kernel_rfl) (by decide +kernel)
  exact ⟨h1, by simpa using h2⟩
theorem four_c : Fn 4616189618054758400 ∧ vr 4616189618054758400 = 4 := by
  obtain ⟨h1, h2⟩ := const_vr (x := 4616189618054758400) (m := 2 ^ 52) (e := -50) (a := 4) (b := 1) (by kernel_rfl) (by decide +kernel)
  exact ⟨h1, by simpa using h2⟩
theorem half_c : Fn 4602678819172646912 ∧ vr 4602678819172646912 * 2 = 1 := by
  obtain ⟨h1, h2⟩ := const_vr (x := 4602678819172646912) (m := 2 ^ 52) (e := -53) (a := 1) (b := 2) (by kernel_rfl) (by decide +kernel)
  exact ⟨h1, by simpa using h2⟩
theorem six_c : Fn 4618441417868443648 ∧ vr 4618441417868443648 = 6 := by
  obtain ⟨h1, h2⟩ := const_vr (x := 4618441417868443648) (m := 3 * 2 ^ 51) (e := -50) (a := 6) (b := 1) (by kernel_rfl) (by decide +kernel)
  exact ⟨h1, by simpa using h2⟩
theorem ap_mono {x : UInt64} {y e f : Rat} (h : Ap x y e) (hf : e ≤ f) : Ap x y f := by
  obtain ⟨h1, h2, h3⟩ := h
  have := Rat.mul_le_mul_of_nonneg_right hf (Rat.le_of_lt eps_pos)
  exact ⟨h1, by grind, by grind⟩
theorem small_e {e : Rat} (h : e ≤ 1000000000) : e * eps ≤ 1 / 1000 := by
  have := Rat.mul_le_mul_of_nonneg_right h (Rat.le_of_lt eps_pos)
  unfold eps at *
  grind
theorem ap_add {x y : UInt64} {a b e f : Rat} (hx : Ap x a e) (hy : Ap y b f) (h1 : a + b ≤ 2000) (h2 : -(a + b) ≤ 2000) (he : e ≤ 1000000000) (hf : f ≤ 1000000000) : Ap (add x y) (a + b) (e + f + 1) := by
  obtain ⟨x1, x2, x3⟩ := hx
  obtain ⟨y1, y2, y3⟩ := hy
  have k1 := small_e he
  have k2 := small_e hf
  obtain ⟨z1, z2, z3⟩ := fin_add x1 y1 (by grind) (by grind)
  exact ⟨z1, by grind, by grind⟩
theorem ap_sub {x y : UInt64} {a b e f : Rat} (hx : Ap x a e) (hy : Ap y b f) (h1 : a - b ≤ 2000) (h2 : -(a - b) ≤ 2000) (he : e ≤ 1000000000) (hf : f ≤ 1000000000) : Ap (sub x y) (a - b) (e + f + 1) := by
  obtain ⟨x1, x2, x3⟩ := hx
  obtain ⟨y1, y2, y3⟩ := hy
  have k1 := small_e he
  have k2 := small_e hf
  obtain ⟨z1, z2, z3⟩ := fin_sub x1 y1 (by grind) (by grind)
  exact ⟨z1, by grind, by grind⟩
theorem ap_mul {x y : UInt64} {a b e f A B : Rat} (hx : Ap x a e) (hy : Ap y b f) (ha : a ≤ A) (ha' : -a ≤ A) (hb : b ≤ B) (hb' : -b ≤ B) (hab : A * B ≤ 1900) (hA : A ≤ 2000) (hB : B ≤ 2000) (he : e ≤ 10000000) (hf : f ≤ 10000) (he0 : 0 ≤ e) (hf0 : 0 ≤ f) : Ap (mul x y) (a * b) (A * f + B * e + 2) := by
  obtain ⟨x1, x2, x3⟩ := hx
  obtain ⟨y1, y2, y3⟩ := hy
  have hp := eps_pos
  obtain ⟨m1, m2⟩ := mul_close x2 x3 y2 y3 ha ha' hb hb'
  have p1 := prod_le ha ha' hb hb'
  have k1 : e * eps * (f * eps) ≤ 1 * eps := by
    have k2 : e * eps ≤ 1 / 10000 := by
      have := Rat.mul_le_mul_of_nonneg_right he (Rat.le_of_lt hp)
      unfold eps at *
      grind
    have k3 : 0 ≤ f * eps := Rat.mul_nonneg hf0 (Rat.le_of_lt hp)
    have k4 := Rat.mul_le_mul_of_nonneg_right k2 k3
    have k5 := Rat.mul_le_mul_of_nonneg_right hf (Rat.le_of_lt hp)
    grind
  have k6 : A * (f * eps) ≤ 1 := by
    have q1 := Rat.mul_le_mul_of_nonneg_right hA (Rat.mul_nonneg hf0 (Rat.le_of_lt hp))
    have q2 := Rat.mul_le_mul_of_nonneg_right hf (Rat.le_of_lt hp)
    unfold eps at *
    grind
  have k7 : B * (e * eps) ≤ 1 := by
    have q1 := Rat.mul_le_mul_of_nonneg_right hB (Rat.mul_nonneg he0 (Rat.le_of_lt hp))
    have q2 := Rat.mul_le_mul_of_nonneg_right he (Rat.le_of_lt hp)
    unfold eps at *
    grind
  have k8 : eps ≤ 1 := by unfold eps; grind
  obtain ⟨z1, z2, z3⟩ := fin_mul x1 y1 (by grind) (by grind)
  exact ⟨z1, by grind, by grind⟩
end Mine
end
section
open PySem PySem.W PyProof.Rows PySem.Calls
set_option maxRecDepth 100000
set_option exponentiation.threshold 6000
namespace Mine
abbrev c1 : UInt64 := 4607182418800017408
abbrev c6 : UInt64 := 4618441417868443648
noncomputable def hsvN (h : UInt64) : Int := Flt.toInt Float64.truncOf (Float64.mul h 4618441417868443648)
noncomputable def hsvR (h : UInt64) : UInt64 := Float64.sub (Float64.mul h 4618441417868443648) (Float64.ofInt (hsvN h))
noncomputable def hsvP (sg V : UInt64) : UInt64 := Float64.mul V (Float64.sub 4607182418800017408 sg)
noncomputable def hsvQ (h sg V : UInt64) : UInt64 := Float64.mul V (Float64.sub 4607182418800017408 (Float64.mul sg (hsvR h)))
noncomputable def hsvT (h sg V : UInt64) : UInt64 := Float64.mul V (Float64.sub 4607182418800017408 (Float64.mul sg (Float64.sub 4607182418800017408 (hsvR h))))
noncomputable def hsvF (h sg V : UInt64) : UInt64 × UInt64 × UInt64 :=
  if (Float64.cmp sg 0 == some .eq) = true then (V, V, V) else
  if (hsvN h).fmod 6 = 0 then (V, hsvT h sg V, hsvP sg V) else
  if (hsvN h).fmod 6 = 1 then (hsvQ h sg V, V, hsvP sg V) else
  if (hsvN h).fmod 6 = 2 then (hsvP sg V, V, hsvT h sg V) else
  if (hsvN h).fmod 6 = 3 then (hsvP sg V, hsvQ h sg V, V) else
  if (hsvN h).fmod 6 = 4 then (hsvT h sg V, hsvP sg V, V) else (V, hsvP sg V, hsvQ h sg V)
theorem ov_no {n : Int} (h : n.natAbs < 1000000) : ¬ 2 ^ 1024 - 2 ^ 970 ≤ n.natAbs := by
  have : 1000000 ≤ 2 ^ 1024 - 2 ^ 970 := by decide
  omega
theorem fmod6 {n : Int} (h0 : n.fmod 6 ≠ 0) (h1 : n.fmod 6 ≠ 1) (h2 : n.fmod 6 ≠ 2) (h3 : n.fmod 6 ≠ 3) (h4 : n.fmod 6 ≠ 4) (h5 : n.fmod 6 ≠ 5) : False := by
  have e := Int.fmod_eq_emod_of_nonneg n (show (0 : Int) ≤ 6 by omega)
  omega
end Mine
end
section
open PySem PySem.Float64
set_option maxRecDepth 100000
set_option exponentiation.threshold 6000
namespace Mine
theorem const_ap {x : UInt64} {y : Rat} (h : Fn x ∧ vr x = y) : Ap x y 0 := ⟨h.1, by grind, by grind⟩
theorem zero_c : Ap 0 0 0 := zero_ap false
theorem half_ap : Ap 4602678819172646912 (1 / 2) 0 := ⟨half_c.1, by have := half_c.2; grind, by have := half_c.2; grind⟩
theorem div6_ap {x : UInt64} {a e : Rat} (h : Ap x a e) (h1 : a ≤ 2000) (h2 : -a ≤ 2000) (he : e ≤ 1000000000) (he0 : 0 ≤ e) : Ap (div x 4618441417868443648) (a / 6) (e + 1) := by
  obtain ⟨x1, x2, x3⟩ := h
  have k1 := small_e he
  have k0 := Rat.mul_nonneg he0 (Rat.le_of_lt eps_pos)
  obtain ⟨z1, z2, z3⟩ := fin_div (s := vr x / 6) x1 six_c.1 (by rw [six_c.2]; grind) (by rw [six_c.2]; grind) (by grind) (by grind)
  exact ⟨z1, by grind, by grind⟩
theorem floor_ok {m : Nat} {e : Int} (he : -1074 ≤ e) : ∃ u : Rat, 0 ≤ u ∧ u * sc = ((m * 2 ^ (e + 1074).toNat : Nat) : Rat) ∧ ((floorOf false m e : Int) : Rat) ≤ u ∧ u < ((floorOf false m e : Int) : Rat) + 1 ∧ 0 ≤ floorOf false m e := by
  have hs := sc_pos
  unfold floorOf sgn
  simp only [Bool.false_eq_true, if_false]
  by_cases h : 0 ≤ e
  · rw [if_pos (by omega)]
    have e1 : (e + 1074).toNat = e.toNat + 1074 := by omega
    have e2 : ((m * 2 ^ (e + 1074).toNat : Nat) : Rat) = ((m * 2 ^ e.toNat : Nat) : Rat) * sc := by
      rw [e1, Nat.pow_add, ← Nat.mul_assoc]
      unfold sc
      exact_mod_cast rfl
    refine ⟨((m * 2 ^ e.toNat : Nat) : Rat), by exact_mod_cast Nat.zero_le _, e2.symm, ?_, ?_, ?_⟩
    · have : (((m : Int) * 2 ^ e.toNat : Int) : Rat) = ((m * 2 ^ e.toNat : Nat) : Rat) := by simp [Rat.intCast_natCast]
      rw [this]
      exact Rat.le_refl
    · have : (((m : Int) * 2 ^ e.toNat : Int) : Rat) = ((m * 2 ^ e.toNat : Nat) : Rat) := by simp [Rat.intCast_natCast]
      rw [this]
      grind
    · exact_mod_cast Nat.zero_le _
  · rw [if_neg (by omega)]
    obtain ⟨c, hc⟩ : ∃ c : Nat, c = 2 ^ (-e).toNat := ⟨_, rfl⟩
    have hcp : 0 < c := by rw [hc]; exact Nat.two_pow_pos _
    have hcr : (0 : Rat) < (c : Rat) := by exact_mod_cast hcp
    have e1 : ((m : Int).fdiv (2 ^ (-e).toNat)) = ((m / c : Nat) : Int) := by
      rw [hc, Int.fdiv_eq_ediv_of_nonneg _ (pow2_nn _)]
      simp
    have hsc : sc = (c : Rat) * ((2 ^ (e + 1074).toNat : Nat) : Rat) := by
      have : (2 : Nat) ^ 1074 = c * 2 ^ (e + 1074).toNat := by
        rw [hc, ← Nat.pow_add]
        congr 1
        omega
      unfold sc
      exact_mod_cast this
    rw [e1]
    have hm1 := Nat.div_add_mod m c
    have hm2 := Nat.mod_lt m hcp
    have hm3 : ((c * (m / c) : Nat) : Rat) ≤ (m : Rat) := by exact_mod_cast Nat.mul_div_le m c
    have hm4 : (m : Rat) < ((c * (m / c) + c : Nat) : Rat) := by
      have : m < c * (m / c) + c := by omega
      exact_mod_cast this
    have hu : (m : Rat) / (c : Rat) * (c : Rat) = (m : Rat) := by
      generalize (c : Rat) = z at *
      grind
    have hm0 : (0 : Rat) ≤ (m : Rat) := by exact_mod_cast Nat.zero_le m
    have hq : (((m / c : Nat) : Int) : Rat) = ((m / c : Nat) : Rat) := Rat.intCast_natCast _
    rw [hq]
    have hm3' : (c : Rat) * ((m / c : Nat) : Rat) ≤ (m : Rat) := by
      rw [show (c : Rat) * ((m / c : Nat) : Rat) = ((c * (m / c) : Nat) : Rat) by simp]
      exact hm3
    have hm4' : (m : Rat) < (c : Rat) * ((m / c : Nat) : Rat) + (c : Rat) := by
      rw [show (c : Rat) * ((m / c : Nat) : Rat) + (c : Rat) = ((c * (m / c) + c : Nat) : Rat) by simp]
      exact hm4
    have e5 : ((m * 2 ^ (e + 1074).toNat : Nat) : Rat) = (m : Rat) * ((2 ^ (e + 1074).toNat : Nat) : Rat) := by simp
    rw [e5, hsc]
    have h0 : (0 : Int) ≤ ((m / c : Nat) : Int) := Int.natCast_nonneg _
    refine ⟨(m : Rat) / (c : Rat), ?_, ?_, ?_, ?_, h0⟩
    · generalize (m : Rat) / (c : Rat) = u at *
      refine Rat.not_lt.mp fun hl => ?_
      have := Rat.mul_lt_mul_of_pos_right hl hcr
      grind
    · generalize (m : Rat) / (c : Rat) = u at *
      generalize ((2 ^ (e + 1074).toNat : Nat) : Rat) = p at *
      grind
    · generalize (m : Rat) / (c : Rat) = u at *
      refine Rat.not_lt.mp fun hl => ?_
      have := Rat.mul_lt_mul_of_pos_right hl hcr
      grind
    · generalize (m : Rat) / (c : Rat) = u at *
      refine Rat.not_le.mp fun hl => ?_
      have := Rat.mul_le_mul_of_nonneg_right hl (Rat.le_of_lt hcr)
      grind
theorem trunc_ok {x : UInt64} (hx : Fn x) : ∃ (u : Rat) (k : Int), 0 ≤ u ∧ 0 ≤ k ∧ (k : Rat) ≤ u ∧ u < (k : Rat) + 1 ∧ ((vr x = u ∧ fint x = k) ∨ (vr x = -u ∧ fint x = -k)) := by
  obtain ⟨a, m, e, hx⟩ := hx
  obtain ⟨u, h0, h1, h2, h3, h4⟩ := floor_ok (m := m) (decode_ge hx)
  obtain ⟨z, z0, z1, z2⟩ := vr_abs hx
  have hs := sc_pos
  rw [val_natAbs hx, ← h1] at z1
  have hzu : z = u := by
    have : (z - u) * sc = 0 := by grind
    rcases Rat.mul_eq_zero.mp this with h | h <;> grind
  subst hzu
  have hf : fint x = truncOf a m e := by
    unfold fint Flt.toInt
    rw [hx]
  refine ⟨z, floorOf false m e, h0, h4, h2, h3, ?_⟩
  rw [hf, z2]
  cases a
  · left; exact ⟨by simp, by unfold truncOf; simp⟩
  · right; exact ⟨by simp, by unfold truncOf ceilOf; simp⟩
theorem rnd_ap {x : UInt64} {N : Int} {e : Rat} (h : Ap x N e) (hN : 0 ≤ N ∧ N < 1000) (he : e ≤ 1000000) (he0 : 0 ≤ e) : isFinite (add x 4602678819172646912) = true ∧ rnd x = N := by
  have hN0 : (0 : Rat) ≤ (N : Rat) := by exact_mod_cast hN.1
  have hN1 : (N : Rat) < 1000 := by exact_mod_cast hN.2
  have h2 := ap_add h half_ap (by grind) (by grind) (by grind) (by grind)
  have h3 := small_e (e := e + 0 + 1) (by grind)
  obtain ⟨z1, z2, z3⟩ := h2
  refine ⟨?_, ?_⟩
  · obtain ⟨a, m, f, hd⟩ := z1
    unfold isFinite
    rw [hd]
  · obtain ⟨u, k, u0, k0, k1, k2, k3⟩ := trunc_ok z1
    unfold rnd
    rcases k3 with ⟨k3, k4⟩ | ⟨k3, k4⟩
    · rw [k4]
      have a1 : (k : Rat) < ((N + 1 : Int) : Rat) := by simp; grind
      have a2 : (N : Rat) < ((k + 1 : Int) : Rat) := by simp; grind
      have a3 : k < N + 1 := by exact_mod_cast a1
      have a4 : N < k + 1 := by exact_mod_cast a2
      omega
    · grind
end Mine
end
section
open PySem PySem.Float64
set_option maxRecDepth 100000
set_option exponentiation.threshold 6000
namespace Mine
noncomputable def sect (M m i u : Int) : Int × Int × Int :=
  if i % 6 = 0 then (M, m + u, m) else if i % 6 = 1 then (M - u, M, m) else if i % 6 = 2 then (m, M, m + u) else
  if i % 6 = 3 then (m, M - u, M) else if i % 6 = 4 then (m + u, m, M) else (M, m, M - u)
noncomputable def rotI (S : Int) (k : Nat) (c : Int × Int × Int) : Int × Int × Int := match k with
  | 0 => c
  | 1 => (S - c.2.1, S - c.2.2, S - c.1)
  | 2 => (c.2.2, c.1, c.2.1)
  | 3 => (S - c.1, S - c.2.1, S - c.2.2)
  | 4 => (c.2.1, c.2.2, c.1)
  | _ => (S - c.2.2, S - c.1, S - c.2.1)
theorem sect_succ (M m i u : Int) : sect M m (i + 1) u = rotI (M + m) 1 (sect M m i u) := by
  have h : i % 6 = 0 ∨ i % 6 = 1 ∨ i % 6 = 2 ∨ i % 6 = 3 ∨ i % 6 = 4 ∨ i % 6 = 5 := by omega
  unfold sect rotI
  rcases h with h | h | h | h | h | h
  · rw [h, show (i + 1) % 6 = 1 by omega]; simp; omega
  · rw [h, show (i + 1) % 6 = 2 by omega]; simp; omega
  · rw [h, show (i + 1) % 6 = 3 by omega]; simp; omega
  · rw [h, show (i + 1) % 6 = 4 by omega]; simp; omega
  · rw [h, show (i + 1) % 6 = 5 by omega]; simp; omega
  · rw [h, show (i + 1) % 6 = 0 by omega]; simp; omega
theorem sect_edge (M m i : Int) : sect M m (i + 1) 0 = sect M m i (M - m) := by
  have h : i % 6 = 0 ∨ i % 6 = 1 ∨ i % 6 = 2 ∨ i % 6 = 3 ∨ i % 6 = 4 ∨ i % 6 = 5 := by omega
  unfold sect
  rcases h with h | h | h | h | h | h
  · rw [h, show (i + 1) % 6 = 1 by omega]; simp; omega
  · rw [h, show (i + 1) % 6 = 2 by omega]; simp; omega
  · rw [h, show (i + 1) % 6 = 3 by omega]; simp; omega
  · rw [h, show (i + 1) % 6 = 4 by omega]; simp; omega
  · rw [h, show (i + 1) % 6 = 5 by omega]; simp; omega
  · rw [h, show (i + 1) % 6 = 0 by omega]; simp; omega
theorem rotI_succ (S : Int) {k : Nat} (hk : k < 5) (c : Int × Int × Int) : rotI S (k + 1) c = rotI S 1 (rotI S k c) := by
  have h : k = 0 ∨ k = 1 ∨ k = 2 ∨ k = 3 ∨ k = 4 := by omega
  obtain ⟨x, y, z⟩ := c
  rcases h with rfl | rfl | rfl | rfl | rfl <;> simp [rotI] <;> omega
theorem sect_rot (M m i u : Int) : ∀ k : Nat, k < 6 → sect M m (i + k) u = rotI (M + m) k (sect M m i u)
  | 0, _ => by simp [rotI]
  | k + 1, h => by
    rw [rotI_succ _ (by omega), ← sect_rot M m i u k (by omega), ← sect_succ]
    congr 1
    omega
theorem sect_at {M m i0 u0 i : Int} {k : Nat} (hR : m < M) (h0 : 0 ≤ u0) (h1 : u0 ≤ M - m) (hk : k < 6) (h2 : i * (M - m) ≤ (i0 + k) * (M - m) + u0) (h3 : (i0 + k) * (M - m) + u0 ≤ (i + 1) * (M - m)) :
    sect M m i ((i0 + k) * (M - m) + u0 - i * (M - m)) = rotI (M + m) k (sect M m i0 u0) := by
  rw [← sect_rot M m i0 u0 k hk]
  obtain ⟨d, hd⟩ : ∃ d, i = i0 + k + d := ⟨i - (i0 + k), by omega⟩
  generalize i0 + (k : Int) = j at *
  subst hd
  obtain ⟨R, hRe⟩ : ∃ R, R = M - m := ⟨_, rfl⟩
  have hRp : 0 < R := by omega
  rw [← hRe] at h1 h2 h3 ⊢
  have e2 : (j + d) * R = j * R + d * R := Int.add_mul ..
  have e3 : (j + d + 1) * R = j * R + d * R + R := by rw [Int.add_mul, Int.add_mul, Int.one_mul]
  rw [e2] at h2 ⊢
  rw [e3] at h3
  have d1 : d ≤ 1 := by
    refine Int.not_lt.mp fun hl => ?_
    have := Int.mul_le_mul_of_nonneg_right (show 2 ≤ d by omega) (show 0 ≤ R by omega)
    omega
  have d2 : -1 ≤ d := by
    refine Int.not_lt.mp fun hl => ?_
    have := Int.mul_le_mul_of_nonneg_right (show d ≤ -2 by omega) (show 0 ≤ R by omega)
    omega
  have h : d = 0 ∨ d = 1 ∨ d = -1 := by omega
  rcases h with rfl | rfl | rfl
  · rw [show j + 0 = j by omega, show j * R + u0 - (j * R + 0 * R) = u0 by omega]
  · have : u0 = R := by omega
    subst this
    rw [show j * u0 + u0 - (j * u0 + 1 * u0) = 0 by omega, sect_edge, ← hRe]
  · have : u0 = 0 := by omega
    subst this
    rw [show j * R + 0 - (j * R + -1 * R) = R by omega, show j + -1 = j - 1 by omega]
    have := sect_edge M m (j - 1)
    rw [show j - 1 + 1 = j by omega] at this
    rw [this, hRe]
end Mine
end
section
open PySem PySem.Float64
set_option maxRecDepth 100000
set_option exponentiation.threshold 6000
namespace Mine
theorem fdv_ap {a b : Int} (ha : 0 ≤ a) (hb : 0 < b) (hab : a ≤ b) : ∃ s : Rat, s * (b : Rat) = (a : Rat) ∧ 0 ≤ s ∧ s ≤ 1 ∧ Ap (fdv a b) s 1 := by
  have hbr : (0 : Rat) < (b : Rat) := by exact_mod_cast hb
  have har : (0 : Rat) ≤ (a : Rat) := by exact_mod_cast ha
  have habr : (a : Rat) ≤ (b : Rat) := by exact_mod_cast hab
  have e : (a : Rat) / (b : Rat) * (b : Rat) = (a : Rat) := by
    generalize (a : Rat) = x at *
    generalize (b : Rat) = y at *
    grind
  have h0 : 0 ≤ (a : Rat) / (b : Rat) := by
    refine Rat.not_lt.mp fun hl => ?_
    have := Rat.mul_lt_mul_of_pos_right hl hbr
    grind
  have h1 : (a : Rat) / (b : Rat) ≤ 1 := by
    refine Rat.not_lt.mp fun hl => ?_
    have := Rat.mul_lt_mul_of_pos_right hl hbr
    grind
  exact ⟨_, e, h0, h1, frac_ap ha hb e (by grind)⟩
noncomputable def Base (M m r g b N0 : Int) : Prop := ∀ c : Int, (c = 0 ∨ c = 1) → 0 ≤ N0 + 6 * c * (M - m) → ∃ i0 u0 : Int, (0 ≤ i0 ∧ i0 ≤ 12) ∧ (0 ≤ u0 ∧ u0 ≤ M - m) ∧ i0 * (M - m) + u0 = N0 + 6 * c * (M - m) ∧ sect M m i0 u0 = (r, g, b)
theorem base_r {M m g b : Int} (hm : m < M) (hg : m ≤ g ∧ g ≤ M) (hb : m ≤ b ∧ b ≤ M) (h : g = m ∨ b = m) : Base M m M g b (g - b) := by
  intro c hc h0
  by_cases hbg : b ≤ g
  · have : b = m := by omega
    subst this
    rcases hc with rfl | rfl
    · exact ⟨0, g - b, by omega, by omega, by omega, by simp [sect]; omega⟩
    · exact ⟨6, g - b, by omega, by omega, by omega, by simp [sect]; omega⟩
  · have : g = m := by omega
    subst this
    rcases hc with rfl | rfl
    · omega
    · exact ⟨5, M - b, by omega, by omega, by omega, by simp [sect]; omega⟩
theorem base_g {M m r b : Int} (hm : m < M) (hr : m ≤ r ∧ r ≤ M) (hb : m ≤ b ∧ b ≤ M) (h : r = m ∨ b = m) : Base M m r M b (2 * (M - m) + b - r) := by
  intro c hc h0
  by_cases hbg : r ≤ b
  · have : r = m := by omega
    subst this
    rcases hc with rfl | rfl
    · exact ⟨2, b - r, by omega, by omega, by omega, by simp [sect]; omega⟩
    · exact ⟨8, b - r, by omega, by omega, by omega, by simp [sect]; omega⟩
  · have : b = m := by omega
    subst this
    rcases hc with rfl | rfl
    · exact ⟨1, M - r, by omega, by omega, by omega, by simp [sect]; omega⟩
    · exact ⟨7, M - r, by omega, by omega, by omega, by simp [sect]; omega⟩
theorem base_b {M m r g : Int} (hm : m < M) (hr : m ≤ r ∧ r ≤ M) (hg : m ≤ g ∧ g ≤ M) (h : r = m ∨ g = m) : Base M m r g M (4 * (M - m) + r - g) := by
  intro c hc h0
  by_cases hbg : g ≤ r
  · have : g = m := by omega
    subst this
    rcases hc with rfl | rfl
    · exact ⟨4, r - g, by omega, by omega, by omega, by simp [sect]; omega⟩
    · exact ⟨10, r - g, by omega, by omega, by omega, by simp [sect]; omega⟩
  · have : r = m := by omega
    subst this
    rcases hc with rfl | rfl
    · exact ⟨3, M - g, by omega, by omega, by omega, by simp [sect]; omega⟩
    · exact ⟨9, M - g, by omega, by omega, by omega, by simp [sect]; omega⟩
theorem sub_cast {a b : Int} : ((a - b : Int) : Rat) = (a : Rat) - (b : Rat) := by simp
theorem hue_raw {r g b M m : Int} (hm : m < M) (hr : m ≤ r ∧ r ≤ M) (hg : m ≤ g ∧ g ≤ M) (hb : m ≤ b ∧ b ≤ M) (h1 : r = m ∨ g = m ∨ b = m) (h2 : r = M ∨ g = M ∨ b = M) :
    ∃ (N0 : Int) (X : Rat), X * ((M - m : Int) : Rat) = (N0 : Rat) ∧ -1 ≤ X ∧ X ≤ 5 ∧ Base M m r g b N0 ∧
      Ap (if r = M then sub (fdv (M - b) (M - m)) (fdv (M - g) (M - m)) else if g = M then sub (add 4611686018427387904 (fdv (M - r) (M - m))) (fdv (M - b) (M - m)) else sub (add 4616189618054758400 (fdv (M - g) (M - m))) (fdv (M - r) (M - m))) X 4 := by
  obtain ⟨x, ex, x0, x1, ax⟩ := fdv_ap (a := M - r) (b := M - m) (by omega) (by omega) (by omega)
  obtain ⟨y, ey, y0, y1, ay⟩ := fdv_ap (a := M - g) (b := M - m) (by omega) (by omega) (by omega)
  obtain ⟨z, ez, z0, z1, az⟩ := fdv_ap (a := M - b) (b := M - m) (by omega) (by omega) (by omega)
  split
  · rename_i e
    subst e
    refine ⟨g - b, z - y, ?_, by grind, by grind, base_r hm hg hb (by omega), ap_mono (ap_sub az ay (by grind) (by grind) (by grind) (by grind)) (by grind)⟩
    rw [sub_cast] at ex ey ez ⊢
    simp only [sub_cast] at *
    grind
  · split
    · rename_i e0 e
      subst e
      have aa := ap_add (const_ap two_c) ax (by grind) (by grind) (by grind) (by grind)
      refine ⟨2 * (g - m) + b - r, 2 + x - z, ?_, by grind, by grind, base_g hm hr hb (by omega), ap_mono (ap_sub aa az (by grind) (by grind) (by grind) (by grind)) (by grind)⟩
      have hc : ((2 * (g - m) + b - r : Int) : Rat) = 2 * ((g : Rat) - m) + b - r := by simp
      rw [hc]
      simp only [sub_cast] at *
      grind
    · rename_i e0 e1
      have e : b = M := by omega
      subst e
      have aa := ap_add (const_ap four_c) ay (by grind) (by grind) (by grind) (by grind)
      refine ⟨4 * (b - m) + r - g, 4 + y - x, ?_, by grind, by grind, base_b hm hr hg (by omega), ap_mono (ap_sub aa ax (by grind) (by grind) (by grind) (by grind)) (by grind)⟩
      have hc : ((4 * (b - m) + r - g : Int) : Rat) = 4 * ((b : Rat) - m) + r - g := by simp
      rw [hc]
      simp only [sub_cast] at *
      grind
end Mine
end
section
open PySem PySem.Float64
set_option maxRecDepth 100000
set_option exponentiation.threshold 6000
namespace Mine
theorem gt_neg1 {n : Int} (h : (-1 : Rat) < (n : Rat)) : 0 ≤ n := by
  have : ((-1 : Int) : Rat) < (n : Rat) := by simpa using h
  have : -1 < n := by exact_mod_cast this
  omega
theorem hue_ap {M m r g b N0 : Int} {X : Rat} {h1 : UInt64} (hm : m < M) (hM : M - m ≤ 400) (hX : X * ((M - m : Int) : Rat) = (N0 : Rat)) (l1 : -1 ≤ X) (l2 : X ≤ 5) (hB : Base M m r g b N0) (ha : Ap h1 X 4) :
    ∃ i0 u0 : Int, (0 ≤ i0 ∧ i0 ≤ 12) ∧ (0 ≤ u0 ∧ u0 ≤ M - m) ∧ sect M m i0 u0 = (r, g, b) ∧ ∃ Y : Rat, Y * ((M - m : Int) : Rat) = ((i0 * (M - m) + u0 : Int) : Rat) ∧ Ap (divmod (div h1 4618441417868443648) 4607182418800017408).2 (Y / 6) 7 := by
  have hp := eps_pos
  obtain ⟨a1, a2, a3⟩ := div6_ap ha (by grind) (by grind) (by grind) (by grind)
  have s1 := small_e (e := 4 + 1) (by grind)
  obtain ⟨c, hc, ⟨b1, b2, b3⟩, b4⟩ := mod1_ap a1 (by grind) (by grind)
  obtain ⟨ci, hci, hce⟩ : ∃ ci : Int, (ci = 0 ∨ ci = 1) ∧ (ci : Rat) = c := by
    rcases hc with rfl | rfl
    · exact ⟨0, .inl rfl, rfl⟩
    · exact ⟨1, .inr rfl, rfl⟩
  have hRp : (0 : Rat) < ((M - m : Int) : Rat) := by
    have : 0 < M - m := by omega
    exact_mod_cast this
  have hRb : ((M - m : Int) : Rat) ≤ 400 := by exact_mod_cast hM
  have hn : ((N0 + 6 * ci * (M - m) : Int) : Rat) = (X + 6 * c) * ((M - m : Int) : Rat) := by
    rw [Rat.intCast_add, Rat.intCast_mul, Rat.intCast_mul, hce, Rat.add_mul, hX]
    rfl
  have hlow : -(54 * eps) ≤ X + 6 * c := by grind
  have hn0 : 0 ≤ N0 + 6 * ci * (M - m) := by
    refine gt_neg1 ?_
    rw [hn]
    have k1 := Rat.mul_le_mul_of_nonneg_right hlow (Rat.le_of_lt hRp)
    have k2 := Rat.mul_le_mul_of_nonneg_left hRb (show 0 ≤ 54 * eps by grind)
    generalize ((M - m : Int) : Rat) = R at *
    unfold eps at *
    grind
  obtain ⟨i0, u0, q1, q2, q3, q4⟩ := hB ci hci hn0
  refine ⟨i0, u0, q1, q2, q4, X + 6 * c, ?_, b1, ?_, ?_⟩
  · rw [q3, hn]
  · grind
  · grind
theorem turn_ap {M m i0 u0 : Int} {k : Nat} {H : UInt64} {Y : Rat} (hm : m < M) (hM : M - m ≤ 400) (hi : 0 ≤ i0 ∧ i0 ≤ 12) (hu : 0 ≤ u0 ∧ u0 ≤ M - m) (hk : k < 6) (hY : Y * ((M - m : Int) : Rat) = ((i0 * (M - m) + u0 : Int) : Rat)) (hH : Ap H (Y / 6) 7) :
    let x := mul (add H (div (ofInt k) 4618441417868443648)) 4618441417868443648
    Fn x ∧ (fint x).natAbs < 1000 ∧ ∃ (i u : Int) (f : Rat), fint x = i ∧ (0 ≤ u ∧ u ≤ M - m) ∧ u = (i0 + k) * (M - m) + u0 - i * (M - m) ∧ f * ((M - m : Int) : Rat) = (u : Rat) ∧ (0 ≤ f ∧ f ≤ 1) ∧ Ap (sub x (ofInt (fint x))) f 64 ∧
      i * (M - m) ≤ (i0 + k) * (M - m) + u0 ∧ (i0 + k) * (M - m) + u0 ≤ (i + 1) * (M - m) := by
  intro x
  have hp := eps_pos
  have hRp : (0 : Rat) < ((M - m : Int) : Rat) := by
    have : 0 < M - m := by omega
    exact_mod_cast this
  have hRb : ((M - m : Int) : Rat) ≤ 400 := by exact_mod_cast hM
  have hY0 : 0 ≤ Y := by
    refine Rat.not_lt.mp fun hl => ?_
    have h1 := Rat.mul_lt_mul_of_pos_right hl hRp
    rw [hY, Rat.zero_mul] at h1
    have h2 : i0 * (M - m) + u0 < 0 := by exact_mod_cast h1
    have h3 := Int.mul_nonneg hi.1 (show 0 ≤ M - m by omega)
    omega
  have hY1 : Y ≤ 13 := by
    refine Rat.not_lt.mp fun hl => ?_
    have h1 := Rat.mul_lt_mul_of_pos_right hl hRp
    rw [hY] at h1
    have h1' : ((13 * (M - m) : Int) : Rat) < ((i0 * (M - m) + u0 : Int) : Rat) := by
      rw [Rat.intCast_mul]; exact h1
    have h2 : 13 * (M - m) < i0 * (M - m) + u0 := by exact_mod_cast h1'
    have h3 := Int.mul_le_mul_of_nonneg_right hi.2 (show 0 ≤ M - m by omega)
    omega
  have hkr0 : (0 : Rat) ≤ (((k : Nat) : Int) : Rat) := by exact_mod_cast Int.natCast_nonneg k
  have hkr : (((k : Nat) : Int) : Rat) ≤ 5 := by
    have : ((k : Nat) : Int) ≤ 5 := by omega
    exact_mod_cast this
  have e1 := int_ap (i := ((k : Nat) : Int)) (by grind) (by grind)
  have e2 := div6_ap e1 (by grind) (by grind) (by grind) (by grind)
  have e3 := ap_add hH e2 (by grind) (by grind) (by grind) (by grind)
  have e4 := ap_mul (A := 3) (B := 6) e3 (const_ap six_c) (by grind) (by grind) (by grind) (by grind) (by grind) (by grind) (by grind) (by grind) (by grind) (by grind) (by grind)
  have e5 : Ap x (Y + ((k : Nat) : Int)) 62 := by
    have := ap_mono e4 (f := 62) (by grind)
    rw [show (Y / 6 + (((k : Nat) : Int) : Rat) / 6) * 6 = Y + ((k : Nat) : Int) by grind] at this
    exact this
  clear e4 e3 e2 e1 hH
  obtain ⟨x1, x2, x3⟩ := e5
  have s1 := small_e (e := 62) (by grind)
  obtain ⟨v, kk, v0, v1, v2, v3, v4⟩ := trunc_ok x1
  obtain ⟨i, hie⟩ : ∃ i, i = fint x := ⟨_, rfl⟩
  have hi2 : (i : Rat) - 124 * eps ≤ Y + ((k : Nat) : Int) ∧ Y + ((k : Nat) : Int) ≤ (i : Rat) + 1 + 124 * eps ∧ -1 ≤ i ∧ i ≤ 20 := by
    rcases v4 with ⟨v4, v5⟩ | ⟨v4, v5⟩
    · rw [v5] at hie
      subst hie
      rw [v4] at x2 x3
      have : (i : Rat) < ((20 : Int) : Rat) := by
        have : ((20 : Int) : Rat) = 20 := rfl
        grind
      have : i < 20 := by exact_mod_cast this
      refine ⟨by grind, by grind, by omega, by omega⟩
    · have hk0 : kk = 0 := by
        have : (kk : Rat) < ((1 : Int) : Rat) := by
          have : ((1 : Int) : Rat) = 1 := rfl
          grind
        have : kk < 1 := by exact_mod_cast this
        omega
      rw [v5, hk0] at hie
      have : i = 0 := by omega
      subst this
      rw [v4] at x2 x3
      have : ((0 : Int) : Rat) = 0 := rfl
      refine ⟨by grind, by grind, by omega, by omega⟩
  obtain ⟨j1, j2, j3, j4⟩ := hi2
  have hn : (((i0 + k) * (M - m) + u0 : Int) : Rat) = (Y + ((k : Nat) : Int)) * ((M - m : Int) : Rat) := by
    have : ((i0 + k) * (M - m) + u0 : Int) = i0 * (M - m) + u0 + k * (M - m) := by rw [Int.add_mul]; omega
    rw [this, Rat.intCast_add, ← hY, Rat.intCast_mul, Rat.add_mul]
  have k2 : 124 * eps * ((M - m : Int) : Rat) < 1 := by
    have := Rat.mul_le_mul_of_nonneg_left hRb (show 0 ≤ 124 * eps by grind)
    generalize ((M - m : Int) : Rat) = R at *
    unfold eps at *
    grind
  have L1 : i * (M - m) ≤ (i0 + k) * (M - m) + u0 := by
    have k1 := Rat.mul_le_mul_of_nonneg_right j1 (Rat.le_of_lt hRp)
    rw [← hn] at k1
    have e : ((i : Rat) - 124 * eps) * ((M - m : Int) : Rat) = ((i * (M - m) : Int) : Rat) - 124 * eps * ((M - m : Int) : Rat) := by rw [Rat.intCast_mul]; grind
    rw [e] at k1
    have k3 : ((i * (M - m) : Int) : Rat) < (((i0 + k) * (M - m) + u0 + 1 : Int) : Rat) := by
      rw [Rat.intCast_add ((i0 + k) * (M - m) + u0) 1, show ((1 : Int) : Rat) = 1 from rfl]
      grind
    have : i * (M - m) < (i0 + k) * (M - m) + u0 + 1 := by exact_mod_cast k3
    omega
  have L2 : (i0 + k) * (M - m) + u0 ≤ (i + 1) * (M - m) := by
    have k1 := Rat.mul_le_mul_of_nonneg_right j2 (Rat.le_of_lt hRp)
    rw [← hn] at k1
    have e : ((i : Rat) + 1 + 124 * eps) * ((M - m : Int) : Rat) = (((i + 1) * (M - m) : Int) : Rat) + 124 * eps * ((M - m : Int) : Rat) := by
      rw [Rat.intCast_mul, Rat.intCast_add, show ((1 : Int) : Rat) = 1 from rfl]; grind
    rw [e] at k1
    have k3 : (((i0 + k) * (M - m) + u0 : Int) : Rat) < (((i + 1) * (M - m) + 1 : Int) : Rat) := by
      rw [Rat.intCast_add ((i + 1) * (M - m)) 1, show ((1 : Int) : Rat) = 1 from rfl]
      grind
    have : (i0 + k) * (M - m) + u0 < (i + 1) * (M - m) + 1 := by exact_mod_cast k3
    omega
  have hirb : (i : Rat) ≤ 20 := by exact_mod_cast j4
  have hirb2 : (-1 : Rat) ≤ (i : Rat) := by
    have : ((-1 : Int) : Rat) ≤ (i : Rat) := by exact_mod_cast j3
    simpa using this
  have e6 := int_ap (i := i) (by grind) (by grind)
  have e7 := ap_sub (x := x) (y := ofInt i) (a := Y + ((k : Nat) : Int)) (e := 62) ⟨x1, x2, x3⟩ e6 (by grind) (by grind) (by grind) (by grind)
  have hu2 : (((i0 + k) * (M - m) + u0 - i * (M - m) : Int) : Rat) = (Y + ((k : Nat) : Int) - i) * ((M - m : Int) : Rat) := by
    rw [sub_cast, hn, Rat.intCast_mul]; grind
  have hub : 0 ≤ (i0 + k) * (M - m) + u0 - i * (M - m) ∧ (i0 + k) * (M - m) + u0 - i * (M - m) ≤ M - m := by
    rw [Int.add_mul i 1, Int.one_mul] at L2
    omega
  refine ⟨x1, by omega, i, (i0 + k) * (M - m) + u0 - i * (M - m), Y + ((k : Nat) : Int) - i, hie.symm, hub, rfl, hu2.symm, ⟨?_, ?_⟩, by rw [← hie]; exact ap_mono e7 (by grind), L1, L2⟩
  · refine Rat.not_lt.mp fun hl => ?_
    have h1 := Rat.mul_lt_mul_of_pos_right hl hRp
    rw [← hu2, Rat.zero_mul] at h1
    have h2 : (i0 + k) * (M - m) + u0 - i * (M - m) < 0 := by exact_mod_cast h1
    omega
  · refine Rat.not_lt.mp fun hl => ?_
    have h1 := Rat.mul_lt_mul_of_pos_right hl hRp
    rw [← hu2, Rat.one_mul] at h1
    have h2 : M - m < (i0 + k) * (M - m) + u0 - i * (M - m) := by exact_mod_cast h1
    omega
end Mine
end
section
open PySem PySem.Float64
set_option maxRecDepth 100000
set_option exponentiation.threshold 6000
namespace Mine
noncomputable def finT (x : UInt64) : Prop := isFinite (add x 4602678819172646912) = true
noncomputable def tuH (r g b k : Int) : UInt64 := add (rgbH r g b) (div (ofInt k) 4618441417868443648)
noncomputable def tuP (r g b k : Int) : UInt64 × UInt64 × UInt64 := hsvF (tuH r g b k) (rgbS r g b) (ofInt (max r (max g b)))
noncomputable def TuOk (r g b k : Int) (c : Int × Int × Int) : Prop :=
  isNaN (mul (tuH r g b k) 4618441417868443648) = false ∧ isInf (mul (tuH r g b k) 4618441417868443648) = false ∧ (hsvN (tuH r g b k)).natAbs < 1000000 ∧
  finT (tuP r g b k).1 ∧ finT (tuP r g b k).2.1 ∧ finT (tuP r g b k).2.2 ∧ rnd (tuP r g b k).1 = c.1 ∧ rnd (tuP r g b k).2.1 = c.2.1 ∧ rnd (tuP r g b k).2.2 = c.2.2
theorem fn_nan {x : UInt64} (h : Fn x) : isNaN x = false ∧ isInf x = false := by
  obtain ⟨a, m, e, h⟩ := h
  unfold isNaN isInf
  rw [h]
  exact ⟨rfl, rfl⟩
theorem parts_ap {M m u : Int} {s f : UInt64} {φ : Rat} (hm : m < M) (h0 : 0 ≤ m) (hM : M ≤ 400) (hu : 0 ≤ u ∧ u ≤ M - m) (hφ : φ * ((M - m : Int) : Rat) = (u : Rat)) (hφ0 : 0 ≤ φ) (hφ1 : φ ≤ 1) (hs : s = fdv (M - m) M) (hf : Ap f φ 64) :
    Ap (ofInt M) M 1000000 ∧ Ap (mul (ofInt M) (sub 4607182418800017408 s)) m 1000000 ∧ Ap (mul (ofInt M) (sub 4607182418800017408 (mul s f))) ((M - u : Int) : Rat) 1000000 ∧
    Ap (mul (ofInt M) (sub 4607182418800017408 (mul s (sub 4607182418800017408 f)))) ((m + u : Int) : Rat) 1000000 ∧ (cmp s 0 == some Ordering.eq) = false := by
  obtain ⟨σ, es, s0, s1, as⟩ := fdv_ap (a := M - m) (b := M) (by omega) (by omega) (by omega)
  rw [← hs] at as
  have hMr : (M : Rat) ≤ 400 := by exact_mod_cast hM
  have hM0 : (0 : Rat) < (M : Rat) := by
    have : 0 < M := by omega
    exact_mod_cast this
  have aV := int_ap (i := M) (by grind) (by grind)
  have a1 : Ap 4607182418800017408 1 0 := const_ap ⟨one_fn, one_vr⟩
  have b1 := ap_sub a1 as (by grind) (by grind) (by grind) (by grind)
  have p1 := ap_mul (A := 400) (B := 1) aV b1 hMr (by grind) (by grind) (by grind) (by grind) (by grind) (by grind) (by grind) (by grind) (by grind) (by grind)
  have c1 := ap_mul (A := 1) (B := 1) as hf (by grind) (by grind) (by grind) (by grind) (by grind) (by grind) (by grind) (by grind) (by grind) (by grind) (by grind)
  have σφ := prod_le (u := σ) (v := φ) (P := 1) (Q := 1) s1 (by grind) hφ1 (by grind)
  have σφ0 := Rat.mul_nonneg s0 hφ0
  have c2 := ap_sub a1 c1 (by grind) (by grind) (by grind) (by grind)
  have q1 := ap_mul (A := 400) (B := 1) aV c2 hMr (by grind) (by grind) (by grind) (by grind) (by grind) (by grind) (by grind) (by grind) (by grind) (by grind)
  have d1 := ap_sub a1 hf (by grind) (by grind) (by grind) (by grind)
  have d2 := ap_mul (A := 1) (B := 1) as d1 (by grind) (by grind) (by grind) (by grind) (by grind) (by grind) (by grind) (by grind) (by grind) (by grind) (by grind)
  have τ0 := Rat.mul_nonneg s0 (show 0 ≤ 1 - φ by grind)
  have τ1 := prod_le (u := σ) (v := 1 - φ) (P := 1) (Q := 1) s1 (by grind) (by grind) (by grind)
  have d3 := ap_sub a1 d2 (by grind) (by grind) (by grind) (by grind)
  have t1 := ap_mul (A := 400) (B := 1) aV d3 hMr (by grind) (by grind) (by grind) (by grind) (by grind) (by grind) (by grind) (by grind) (by grind) (by grind)
  have hR : ((M - m : Int) : Rat) = (M : Rat) - (m : Rat) := sub_cast
  have eu : σ * φ * M = (u : Rat) := by rw [← hφ, hR, ← sub_cast, ← es]; grind
  refine ⟨ap_mono aV (by grind), ?_, ?_, ?_, ?_⟩
  · have := ap_mono p1 (f := 1000000) (by grind)
    rw [show (M : Rat) * (1 - σ) = (m : Rat) by grind] at this
    exact this
  · have := ap_mono q1 (f := 1000000) (by grind)
    rw [show (M : Rat) * (1 - σ * φ) = ((M - u : Int) : Rat) by rw [sub_cast]; grind] at this
    exact this
  · have := ap_mono t1 (f := 1000000) (by grind)
    rw [show (M : Rat) * (1 - σ * (1 - φ)) = ((m + u : Int) : Rat) by rw [Rat.intCast_add]; grind] at this
    exact this
  · have hσ : 1 / 400 ≤ σ := by
      refine Rat.not_lt.mp fun hl => ?_
      have k1 := Rat.mul_lt_mul_of_pos_right hl hM0
      have k2 : ((1 : Int) : Rat) ≤ ((M - m : Int) : Rat) := by
        have : 1 ≤ M - m := by omega
        exact_mod_cast this
      rw [show ((1 : Int) : Rat) = 1 from rfl] at k2
      grind
    obtain ⟨f1, f2, f3⟩ := as
    have hpos : 0 < vr s := by
      unfold eps at *
      grind
    have hne : val s ≠ 0 := by
      intro h
      unfold vr at hpos
      rw [h] at hpos
      simp [Rat.div_def] at hpos
    obtain ⟨a, mm, e, hd⟩ := f1
    obtain ⟨a', m', e', hd'⟩ := zero_c.1
    have h0v : val 0 = 0 := by
      have h3 := vr_sc 0
      have h4 : vr 0 = 0 := by
        obtain ⟨-, z2, z3⟩ := zero_c
        grind
      rw [h4, Rat.zero_mul] at h3
      exact_mod_cast h3.symm
    rw [cmp_right hd hd', h0v]
    rcases Int.lt_trichotomy (val s) 0 with h | h | h
    · rw [Int.compare_eq_lt.mpr h]; rfl
    · exact absurd h hne
    · rw [Int.compare_eq_gt.mpr h]; rfl
theorem turned_max {s a b c : Int} (ha : a ≤ s) (hb : b ≤ s) (hc : c ≤ s) : max a (max b c) ≤ s := Int.max_le.mpr ⟨ha, Int.max_le.mpr ⟨hb, hc⟩⟩
theorem turned_min {s a b c : Int} (ha : s ≤ a) (hb : s ≤ b) (hc : s ≤ c) : s ≤ min a (min b c) := Int.le_min.mpr ⟨ha, Int.le_min.mpr ⟨hb, hc⟩⟩
theorem max_ge (a b c : Int) : a ≤ max a (max b c) ∧ b ≤ max a (max b c) ∧ c ≤ max a (max b c) :=
  ⟨Int.le_max_left _ _, Int.le_trans (Int.le_max_left _ _) (Int.le_max_right _ _), Int.le_trans (Int.le_max_right _ _) (Int.le_max_right _ _)⟩
theorem min_le3 (a b c : Int) : min a (min b c) ≤ a ∧ min a (min b c) ≤ b ∧ min a (min b c) ≤ c :=
  ⟨Int.min_le_left _ _, Int.le_trans (Int.min_le_right _ _) (Int.min_le_left _ _), Int.le_trans (Int.min_le_right _ _) (Int.min_le_right _ _)⟩
theorem max_mem3 (a b c : Int) : a = max a (max b c) ∨ b = max a (max b c) ∨ c = max a (max b c) := by omega
theorem min_mem3 (a b c : Int) : a = min a (min b c) ∨ b = min a (min b c) ∨ c = min a (min b c) := by omega
theorem mod6_cases (i : Int) : i % 6 = 0 ∨ i % 6 = 1 ∨ i % 6 = 2 ∨ i % 6 = 3 ∨ i % 6 = 4 ∨ i % 6 = 5 := by omega
theorem tu_ok {r g b : Int} (hr : 0 ≤ r ∧ r ≤ 400) (hg : 0 ≤ g ∧ g ≤ 400) (hb : 0 ≤ b ∧ b ≤ 400) {k : Nat} (hk : k < 6) :
    TuOk r g b k (rotI (max r (max g b) + min r (min g b)) k (r, g, b)) := by
  obtain ⟨M, hMe⟩ : ∃ M, M = max r (max g b) := ⟨_, rfl⟩
  obtain ⟨m, hme⟩ : ∃ m, m = min r (min g b) := ⟨_, rfl⟩
  have hr2 : m ≤ r ∧ r ≤ M := by rw [hMe, hme]; exact ⟨(min_le3 r g b).1, (max_ge r g b).1⟩
  have hg2 : m ≤ g ∧ g ≤ M := by rw [hMe, hme]; exact ⟨(min_le3 r g b).2.1, (max_ge r g b).2.1⟩
  have hb2 : m ≤ b ∧ b ≤ M := by rw [hMe, hme]; exact ⟨(min_le3 r g b).2.2, (max_ge r g b).2.2⟩
  have h1 : r = m ∨ g = m ∨ b = m := by rw [hme]; exact min_mem3 r g b
  have h2 : r = M ∨ g = M ∨ b = M := by rw [hMe]; exact max_mem3 r g b
  have hMb : 0 ≤ M ∧ M ≤ 400 := ⟨Int.le_trans hr.1 hr2.2, by rw [hMe]; exact turned_max hr.2 hg.2 hb.2⟩
  have hmb : 0 ≤ m ∧ m ≤ M := ⟨by rw [hme]; exact turned_min hr.1 hg.1 hb.1, Int.le_trans hr2.1 hr2.2⟩
  have hMr : (M : Rat) ≤ 400 := by exact_mod_cast hMb.2
  have hM0 : (0 : Rat) ≤ (M : Rat) := by exact_mod_cast hMb.1
  have hkr0 : (0 : Rat) ≤ (((k : Nat) : Int) : Rat) := by exact_mod_cast Int.natCast_nonneg k
  have hkr : (((k : Nat) : Int) : Rat) ≤ 5 := by
    have : ((k : Nat) : Int) ≤ 5 := by omega
    exact_mod_cast this
  by_cases hmM : m = M
  · -- grey
    have hH : rgbH r g b = 0 := by unfold rgbH; rw [if_pos (by omega)]
    have hS : rgbS r g b = 0 := by unfold rgbS; rw [if_pos (by omega)]
    have e1 := int_ap (i := ((k : Nat) : Int)) (by grind) (by grind)
    have e2 := div6_ap e1 (by grind) (by grind) (by grind) (by grind)
    have e3 := ap_add zero_c e2 (by grind) (by grind) (by grind) (by grind)
    have e4 := ap_mul (A := 1) (B := 6) e3 (const_ap six_c) (by grind) (by grind) (by grind) (by grind) (by grind) (by grind) (by grind) (by grind) (by grind) (by grind) (by grind)
    have hF : tuP r g b k = (ofInt M, ofInt M, ofInt M) := by
      unfold tuP hsvF
      rw [hS, if_pos (by decide +kernel), hMe]
    have aV := int_ap (i := M) (by grind) (by grind)
    obtain ⟨w1, w2⟩ := rnd_ap aV (by omega) (by grind) (by grind)
    have hc : rotI (M + m) k (r, g, b) = (M, M, M) := by
      have : k = 0 ∨ k = 1 ∨ k = 2 ∨ k = 3 ∨ k = 4 ∨ k = 5 := by omega
      rcases this with rfl | rfl | rfl | rfl | rfl | rfl <;> simp [rotI] <;> omega
    obtain ⟨u, kk, v0, v1, v2, v3, v4⟩ := trunc_ok e4.1
    have s4 := small_e (e := 1 * 0 + 6 * (0 + (1 + 1) + 1) + 2) (by grind)
    obtain ⟨-, y2, y3⟩ := e4
    have hsm : (hsvN (tuH r g b k)).natAbs < 1000000 := by
      unfold hsvN tuH
      rw [hH]
      have hkk : kk < 1000 := by
        have : (kk : Rat) < ((1000 : Int) : Rat) := by
          have : ((1000 : Int) : Rat) = 1000 := rfl
          rcases v4 with ⟨v4, v5⟩ | ⟨v4, v5⟩ <;> grind
        exact_mod_cast this
      have : fint (mul (add 0 (div (ofInt k) 4618441417868443648)) 4618441417868443648) = kk ∨ fint (mul (add 0 (div (ofInt k) 4618441417868443648)) 4618441417868443648) = -kk := by
        rcases v4 with ⟨v4, v5⟩ | ⟨v4, v5⟩
        · exact .inl v5
        · exact .inr v5
      unfold fint at this
      omega
    have hfn : Fn (mul (tuH r g b k) 4618441417868443648) := by
      unfold tuH
      rw [hH]
      exact (ap_mul (A := 1) (B := 6) e3 (const_ap six_c) (by grind) (by grind) (by grind) (by grind) (by grind) (by grind) (by grind) (by grind) (by grind) (by grind) (by grind)).1
    unfold TuOk
    rw [hF, ← hMe, ← hme, hc]
    exact ⟨(fn_nan hfn).1, (fn_nan hfn).2, hsm, w1, w1, w1, w2, w2, w2⟩
  · obtain ⟨N0, X, x1, x2, x3, x4, x5⟩ := hue_raw (by omega) hr2 hg2 hb2 h1 h2
    obtain ⟨i0, u0, y1, y2, y3, Y, y4, y5⟩ := hue_ap (by omega) (by omega) x1 x2 x3 x4 x5
    have hHe : rgbH r g b = (divmod (div (if r = M then sub (fdv (M - b) (M - m)) (fdv (M - g) (M - m)) else if g = M then sub (add 4611686018427387904 (fdv (M - r) (M - m))) (fdv (M - b) (M - m)) else sub (add 4616189618054758400 (fdv (M - g) (M - m))) (fdv (M - r) (M - m))) 4618441417868443648) 4607182418800017408).2 := by
      unfold rgbH
      rw [if_neg (by omega)]
      simp only [← hMe, ← hme]
    rw [← hHe] at y5
    obtain ⟨z1, z2, i, u, f, z3, z4, z5, z6, z7, z8, z9, z10⟩ := turn_ap (by omega) (by omega) y1 y2 hk y4 y5
    have hSe : rgbS r g b = fdv (M - m) M := by
      unfold rgbS
      rw [if_neg (by omega), ← hMe, ← hme]
    obtain ⟨q1, q2, q3, q4, q5⟩ := parts_ap (by omega) hmb.1 hMb.2 z4 z6 z7.1 z7.2 hSe z8
    have hse := sect_at (by omega) y2.1 y2.2 hk z9 z10
    rw [y3, ← z5] at hse
    obtain ⟨a1, a2⟩ := rnd_ap q1 (by omega) (by grind) (by grind)
    obtain ⟨b1, b2⟩ := rnd_ap q2 (by omega) (by grind) (by grind)
    obtain ⟨c1, c2⟩ := rnd_ap q3 (by omega) (by grind) (by grind)
    obtain ⟨d1, d2⟩ := rnd_ap q4 (by omega) (by grind) (by grind)
    have hN : hsvN (tuH r g b k) = i := z3
    have hfm : i.fmod 6 = i % 6 := Int.fmod_eq_emod_of_nonneg _ (by decide)
    have hP : hsvP (rgbS r g b) (ofInt M) = mul (ofInt M) (sub 4607182418800017408 (rgbS r g b)) := rfl
    have hQ : hsvQ (tuH r g b k) (rgbS r g b) (ofInt M) = mul (ofInt M) (sub 4607182418800017408 (mul (rgbS r g b) (sub (mul (tuH r g b k) 4618441417868443648) (ofInt (hsvN (tuH r g b k)))))) := rfl
    have hT : hsvT (tuH r g b k) (rgbS r g b) (ofInt M) = mul (ofInt M) (sub 4607182418800017408 (mul (rgbS r g b) (sub 4607182418800017408 (sub (mul (tuH r g b k) 4618441417868443648) (ofInt (hsvN (tuH r g b k))))))) := rfl
    have hN2 : hsvN (tuH r g b k) = fint (mul (add (rgbH r g b) (div (ofInt k) 4618441417868443648)) 4618441417868443648) := rfl
    have hb' : rnd (hsvP (rgbS r g b) (ofInt M)) = m := b2
    have hc' : rnd (hsvQ (tuH r g b k) (rgbS r g b) (ofInt M)) = M - u := c2
    have hd' : rnd (hsvT (tuH r g b k) (rgbS r g b) (ofInt M)) = m + u := d2
    have fb : finT (hsvP (rgbS r g b) (ofInt M)) := b1
    have fc : finT (hsvQ (tuH r g b k) (rgbS r g b) (ofInt M)) := c1
    have fd : finT (hsvT (tuH r g b k) (rgbS r g b) (ofInt M)) := d1
    refine ⟨(fn_nan z1).1, (fn_nan z1).2, by rw [hN2]; omega, ?_⟩
    rw [← hMe, ← hme, ← hse]
    unfold tuP hsvF
    rw [q5, ← hMe, if_neg (by simp), hN, hfm]
    unfold sect
    rcases mod6_cases i with h | h | h | h | h | h <;> rw [h] <;> simp <;> (refine ⟨?_, ?_, ?_, ?_, ?_, ?_⟩ <;> assumption)
end Mine
end
section
set_option maxRecDepth 100000
namespace Mine
abbrev Z2 := Int × Int
noncomputable def cl3 (c : Int × Int × Int) : Z2 := (c.1 - c.2.2, c.2.1 - c.2.2)
noncomputable def om (k : Nat) (z : Z2) : Z2 := match k with
  | 0 => z
  | 1 => (z.1 - z.2, z.1)
  | 2 => (-z.2, z.1 - z.2)
  | 3 => (-z.1, -z.2)
  | 4 => (z.2 - z.1, -z.1)
  | _ => (z.2, z.2 - z.1)
noncomputable def plus (a b : Z2) : Z2 := (a.1 + b.1, a.2 + b.2)
theorem om_rot (S : Int) {k : Nat} (hk : k < 6) (c : Int × Int × Int) : cl3 (rotI S k c) = om k (cl3 c) := by
  have h : k = 0 ∨ k = 1 ∨ k = 2 ∨ k = 3 ∨ k = 4 ∨ k = 5 := by omega
  rcases h with rfl | rfl | rfl | rfl | rfl | rfl <;> simp [rotI, cl3, om] <;> omega
noncomputable def act (c z : Z2) : Z2 := (c.1 * z.1 + c.2 * (z.1 - z.2), c.1 * z.2 + c.2 * z.1)
noncomputable def omC (k : Nat) (c : Z2) : Z2 := match k with
  | 0 => c
  | 1 => (-c.2, c.1 + c.2)
  | 2 => (-c.1 - c.2, c.1)
  | 3 => (-c.1, -c.2)
  | 4 => (c.2, -c.1 - c.2)
  | _ => (c.1 + c.2, -c.1)
theorem om_act {k : Nat} (hk : k < 6) (c z : Z2) : om k (act c z) = act (omC k c) z := by
  have h : k = 0 ∨ k = 1 ∨ k = 2 ∨ k = 3 ∨ k = 4 ∨ k = 5 := by omega
  obtain ⟨a, b⟩ := c
  obtain ⟨x, y⟩ := z
  rcases h with rfl | rfl | rfl | rfl | rfl | rfl <;> simp only [om, act, omC, Prod.mk.injEq] <;> constructor <;> grind
theorem act_plus (c d z : Z2) : plus (act c z) (act d z) = act (plus c d) z := by
  obtain ⟨a, b⟩ := c
  obtain ⟨a', b'⟩ := d
  obtain ⟨x, y⟩ := z
  simp only [plus, act, Prod.mk.injEq]
  constructor <;> grind
theorem om_plus {k : Nat} (hk : k < 6) (a b : Z2) : om k (plus a b) = plus (om k a) (om k b) := by
  have h : k = 0 ∨ k = 1 ∨ k = 2 ∨ k = 3 ∨ k = 4 ∨ k = 5 := by omega
  rcases h with rfl | rfl | rfl | rfl | rfl | rfl <;> simp [om, plus] <;> omega
structure C6 where
  (a b c d e f : Z2)
  deriving DecidableEq
noncomputable def mixC (q : C6) (z : Nat → Z2) (i : Nat) : Z2 := plus (act q.a (z i)) (plus (act q.b (z (i + 1))) (plus (act q.c (z (i + 2))) (plus (act q.d (z (i + 3))) (plus (act q.e (z (i + 4))) (act q.f (z (i + 5)))))))
noncomputable def stepC (k : Nat) (q : C6) : C6 := ⟨plus q.a (omC k q.f), plus q.b (omC k q.a), plus q.c (omC k q.b), plus q.d (omC k q.c), plus q.e (omC k q.d), plus q.f (omC k q.e)⟩
noncomputable def oneC : C6 := ⟨(1, 0), (0, 0), (0, 0), (0, 0), (0, 0), (0, 0)⟩
theorem mix_one (z : Nat → Z2) (i : Nat) : mixC oneC z i = z i := by
  simp [mixC, oneC, act, plus]
theorem mix_step {k : Nat} (hk : k < 6) (q : C6) (z : Nat → Z2) (hz : ∀ i, z (i + 6) = z i) (i : Nat) : plus (mixC q z i) (om k (mixC q z (i + 1))) = mixC (stepC k q) z i := by
  unfold mixC stepC
  simp only [om_plus hk, om_act hk, ← act_plus]
  rw [show i + 1 + 1 = i + 2 from rfl, show i + 1 + 2 = i + 3 from rfl, show i + 1 + 3 = i + 4 from rfl, show i + 1 + 4 = i + 5 from rfl, show i + 1 + 5 = i + 6 from rfl, hz]
  generalize act q.a (z i) = a0
  generalize act q.b (z (i + 1)) = a1
  generalize act q.c (z (i + 2)) = a2
  generalize act q.d (z (i + 3)) = a3
  generalize act q.e (z (i + 4)) = a4
  generalize act q.f (z (i + 5)) = a5
  generalize act (omC k q.a) (z (i + 1)) = b0
  generalize act (omC k q.b) (z (i + 2)) = b1
  generalize act (omC k q.c) (z (i + 3)) = b2
  generalize act (omC k q.d) (z (i + 4)) = b3
  generalize act (omC k q.e) (z (i + 5)) = b4
  generalize act (omC k q.f) (z i) = b5
  unfold plus
  simp only [Prod.mk.injEq]
  constructor <;> omega
noncomputable def foldC (L : List Nat) : C6 := L.foldl (fun q k => stepC k q) oneC
noncomputable def dealt : Nat → Nat → List Nat → List Nat
  | 0, _, _ => []
  | f + 1, n, left => left.getD (n % left.length) 0 :: dealt f (n / left.length) (left.eraseIdx (n % left.length))
noncomputable def turnsL (n : Nat) : List Nat := dealt 5 (n / 6) ([0, 1, 2, 3, 4, 5].eraseIdx (n % 6))
noncomputable def wantC (s : Nat) : C6 := ⟨omC 0 (1, 0), omC (s % 6) (1, 0), omC (s * 2 % 6) (1, 0), omC (s * 3 % 6) (1, 0), omC (s * 4 % 6) (1, 0), omC (s * 5 % 6) (1, 0)⟩
theorem turns_tab : ((List.range 720).all fun n => decide (foldC (turnsL n) = wantC (n + 3)) && ((turnsL n).all fun k => decide (k < 6)) && decide ((turnsL n).length = 5) && decide ((turnsL n).Nodup)) = true := by decide +kernel
end Mine
end
section
open PySem PySem.W PyProof.Rows PySem.Calls
set_option maxRecDepth 100000
set_option exponentiation.threshold 6000
namespace Mine
theorem dnum_rng {n : Nat} : ∀ {ds : List Int}, (∀ d ∈ ds, 0 ≤ d ∧ d < 2 ^ n) → 0 ≤ dnum n ds ∧ dnum n ds < 2 ^ (n * ds.length)
  | [], _ => by rw [dnum, List.length_nil, Nat.mul_zero, Int.pow_zero]; omega
  | d :: ds, h => by
    have ih := dnum_rng (n := n) (ds := ds) fun x hx => h x (.tail _ hx)
    have hd := h d (.head _)
    have hp : (0 : Int) < 2 ^ n := pow_pos2
    rw [dnum, List.length_cons, Nat.mul_succ, Nat.add_comm, Int.pow_add]
    generalize (2 : Int) ^ (n * ds.length) = P at *
    have h1 : 0 ≤ 2 ^ n * dnum n ds := Int.mul_nonneg (by omega) ih.1
    have h2 : 2 ^ n * dnum n ds ≤ 2 ^ n * (P - 1) := Int.mul_le_mul_of_nonneg_left (by omega) (by omega)
    rw [Int.mul_sub, Int.mul_one] at h2
    omega
theorem digs_dnum {n : Nat} : ∀ {ds : List Int}, (∀ d ∈ ds, 0 ≤ d ∧ d < 2 ^ n) → digs n ds.length (dnum n ds) = ds
  | [], _ => rfl
  | d :: ds, h => by
    have hd := h d (.head _)
    have hp : (0 : Int) < 2 ^ n := pow_pos2
    have e1 : (d + 2 ^ n * dnum n ds) % 2 ^ n = d := by
      rw [Int.add_mul_emod_self_left, Int.emod_eq_of_lt hd.1 hd.2]
    have e2 : (d + 2 ^ n * dnum n ds) / 2 ^ n = dnum n ds := by
      rw [Int.add_mul_ediv_left _ _ (by omega), Int.ediv_eq_zero_of_lt hd.1 hd.2, Int.zero_add]
    rw [List.length_cons, digs, dnum, e1, e2, digs_dnum fun x hx => h x (.tail _ hx)]
noncomputable def fact (k : Nat) (B : Int) : Int := match k with
  | 0 => 1
  | 1 => 1 + B ^ 2
  | 2 => B ^ 2
  | 3 => B + B ^ 2
  | 4 => B
  | _ => 1 + B
abbrev T3 := Int × Int × Int
noncomputable def val3 (B : Int) (d : T3) : Int := d.1 + B * d.2.1 + B ^ 2 * d.2.2
noncomputable def add3 (c d : T3) : T3 := (c.1 + d.1, c.2.1 + d.2.1, c.2.2 + d.2.2)
noncomputable def fact3 (k : Nat) (d : T3) : T3 := match k with
  | 0 => d
  | 1 => add3 d (d.2.1, d.2.2, d.1)
  | 2 => (d.2.1, d.2.2, d.1)
  | 3 => add3 (d.2.2, d.1, d.2.1) (d.2.1, d.2.2, d.1)
  | 4 => (d.2.2, d.1, d.2.1)
  | _ => add3 d (d.2.2, d.1, d.2.1)
theorem fact_val {k : Nat} (hk : k < 6) (B : Int) (d : T3) : ∃ q, fact k B * val3 B d = val3 B (fact3 k d) + q * (B ^ 3 - 1) := by
  obtain ⟨x, y, z⟩ := d
  have h : k = 0 ∨ k = 1 ∨ k = 2 ∨ k = 3 ∨ k = 4 ∨ k = 5 := by omega
  rcases h with rfl | rfl | rfl | rfl | rfl | rfl
  · exact ⟨0, by simp only [fact, fact3, val3]; grind⟩
  · exact ⟨y + B * z, by simp only [fact, fact3, val3, add3]; grind⟩
  · exact ⟨y + B * z, by simp only [fact, fact3, val3]; grind⟩
  · exact ⟨z + (y + B * z), by simp only [fact, fact3, val3, add3]; grind⟩
  · exact ⟨z, by simp only [fact, fact3, val3]; grind⟩
  · exact ⟨z, by simp only [fact, fact3, val3, add3]; grind⟩
theorem add_val (B : Int) (c d : T3) : val3 B (add3 c d) = val3 B c + val3 B d := by
  simp only [val3, add3]; grind
noncomputable def sum3 (d : T3) : Int := d.1 + d.2.1 + d.2.2
noncomputable def nn3 (d : T3) : Prop := 0 ≤ d.1 ∧ 0 ≤ d.2.1 ∧ 0 ≤ d.2.2
theorem fact_sum {k : Nat} (hk : k < 6) {d : T3} (h : nn3 d) : nn3 (fact3 k d) ∧ sum3 (fact3 k d) ≤ 2 * sum3 d := by
  obtain ⟨x, y, z⟩ := d
  have h6 : k = 0 ∨ k = 1 ∨ k = 2 ∨ k = 3 ∨ k = 4 ∨ k = 5 := by omega
  simp only [nn3] at h
  rcases h6 with rfl | rfl | rfl | rfl | rfl | rfl <;> simp only [fact3, add3, nn3, sum3] <;> omega
noncomputable def clD (d : T3) : Z2 := (d.2.2 - d.1, d.2.1 - d.1)
theorem fact_cl {k : Nat} (hk : k < 6) (d : T3) : clD (fact3 k d) = om k (clD d) := by
  obtain ⟨x, y, z⟩ := d
  have h6 : k = 0 ∨ k = 1 ∨ k = 2 ∨ k = 3 ∨ k = 4 ∨ k = 5 := by omega
  rcases h6 with rfl | rfl | rfl | rfl | rfl | rfl <;> simp [fact3, add3, clD, om] <;> omega
theorem add_cl (c d : T3) : clD (add3 c d) = plus (clD c) (clD d) := by
  simp only [clD, add3, plus, Prod.mk.injEq]; omega
noncomputable def nextN (F : Int) (n : Nat → Int) (i : Nat) : Int := n i + F * n ((i + 5) % 6)
noncomputable def nextD (k : Nat) (c : Nat → T3) (i : Nat) : T3 := add3 (c i) (fact3 k (c ((i + 5) % 6)))
noncomputable def row6 (n : Nat → Int) : List Int := [n 0, n 1, n 2, n 3, n 4, n 5]
theorem round_num (w : Nat) (F : Int) (n : Nat → Int) : dnum w (row6 n) * (1 + F * 2 ^ w) = dnum w (row6 (nextN F n)) + F * n 5 * ((2 ^ w) ^ 6 - 1) := by
  simp only [row6, dnum, nextN]
  generalize (2 : Int) ^ w = W
  simp only [show (0 + 5) % 6 = 5 from rfl, show (1 + 5) % 6 = 0 from rfl, show (2 + 5) % 6 = 1 from rfl, show (3 + 5) % 6 = 2 from rfl, show (4 + 5) % 6 = 3 from rfl, show (5 + 5) % 6 = 4 from rfl]
  generalize n 0 = a
  generalize n 1 = b
  generalize n 2 = c
  generalize n 3 = d
  generalize n 4 = e
  generalize n 5 = f
  grind
noncomputable def foldN (B : Int) (L : List Nat) (n : Nat → Int) : Nat → Int := L.foldl (fun n k => nextN (fact k B) n) n
noncomputable def foldD (L : List Nat) (c : Nat → T3) : Nat → T3 := L.foldl (fun c k => nextD k c) c
noncomputable def wholeL (B W : Int) (L : List Nat) (x : Int) : Int := L.foldl (fun x k => x * (1 + fact k B * W)) x
theorem whole_fold (w : Nat) (B : Int) : ∀ (L : List Nat) (n : Nat → Int) (q0 x : Int), x = dnum w (row6 n) + q0 * ((2 ^ w) ^ 6 - 1) → ∃ q, wholeL B (2 ^ w) L x = dnum w (row6 (foldN B L n)) + q * ((2 ^ w) ^ 6 - 1)
  | [], n, q0, x, h => ⟨q0, h⟩
  | k :: L, n, q0, x, h => by
    refine whole_fold w B L (nextN (fact k B) n) (q0 * (1 + fact k B * 2 ^ w) + fact k B * n 5) _ ?_
    have := round_num w (fact k B) n
    show x * (1 + fact k B * 2 ^ w) = _
    rw [h, Int.add_mul, this]
    generalize ((2 : Int) ^ w) ^ 6 - 1 = Z
    generalize (1 + fact k B * 2 ^ w : Int) = Y
    grind
theorem fold_digits (B : Int) : ∀ (L : List Nat) (n : Nat → Int) (c : Nat → T3), (∀ k ∈ L, k < 6) → (∀ i, i < 6 → ∃ q, n i = val3 B (c i) + q * (B ^ 3 - 1)) → ∀ i, i < 6 → ∃ q, foldN B L n i = val3 B (foldD L c i) + q * (B ^ 3 - 1)
  | [], n, c, _, h => h
  | k :: L, n, c, hL, h => by
    refine fold_digits B L (nextN (fact k B) n) (nextD k c) (fun x hx => hL x (.tail _ hx)) fun i hi => ?_
    obtain ⟨q1, e1⟩ := h i hi
    obtain ⟨q2, e2⟩ := h ((i + 5) % 6) (Nat.mod_lt _ (by decide))
    obtain ⟨q3, e3⟩ := fact_val (hL k (.head _)) B (c ((i + 5) % 6))
    refine ⟨q1 + q3 + fact k B * q2, ?_⟩
    unfold nextN nextD
    rw [e1, e2, add_val, Int.mul_add, e3]
    generalize B ^ 3 - 1 = Z
    grind
theorem fold_small : ∀ (L : List Nat) (c : Nat → T3) (s : Int), (∀ k ∈ L, k < 6) → (∀ i, i < 6 → nn3 (c i) ∧ sum3 (c i) ≤ s) → ∀ i, i < 6 → nn3 (foldD L c i) ∧ sum3 (foldD L c i) ≤ s * 3 ^ L.length
  | [], c, s, _, h => fun i hi => by
    show nn3 (c i) ∧ sum3 (c i) ≤ s * 3 ^ 0
    rw [Int.pow_zero, Int.mul_one]; exact h i hi
  | k :: L, c, s, hL, h => fun i hi => by
    have := fold_small L (nextD k c) (s * 3) (fun x hx => hL x (.tail _ hx)) (fun i hi => by
      obtain ⟨a1, a2⟩ := h i hi
      obtain ⟨b1, b2⟩ := h ((i + 5) % 6) (Nat.mod_lt _ (by decide))
      obtain ⟨d1, d2⟩ := fact_sum (hL k (.head _)) b1
      unfold nextD
      generalize fact3 k (c ((i + 5) % 6)) = y at *
      obtain ⟨x1, x2, x3⟩ := y
      generalize c i = z at *
      obtain ⟨z1, z2, z3⟩ := z
      generalize c ((i + 5) % 6) = z' at *
      obtain ⟨z1', z2', z3'⟩ := z'
      simp only [nn3, sum3, add3] at *
      omega) i hi
    rw [List.length_cons, Int.pow_succ, show s * (3 ^ L.length * 3) = s * 3 * 3 ^ L.length by grind]
    exact this
noncomputable def deg (k : Nat) : Nat := match k with
  | 0 => 0
  | 1 => 2
  | 2 => 2
  | 3 => 2
  | 4 => 1
  | _ => 1
theorem fact_deg {k : Nat} (hk : k < 6) {B : Int} (hB : 2 ≤ B) : 0 ≤ fact k B ∧ 1 + fact k B ≤ 2 * B ^ deg k := by
  have hB2 : 2 * B ≤ B ^ 2 := by
    rw [show B ^ 2 = B * B by grind]
    exact Int.mul_le_mul_of_nonneg_right hB (by omega)
  have h6 : k = 0 ∨ k = 1 ∨ k = 2 ∨ k = 3 ∨ k = 4 ∨ k = 5 := by omega
  rcases h6 with rfl | rfl | rfl | rfl | rfl | rfl <;> simp only [fact, deg, Int.pow_zero] <;> (generalize B ^ 2 = C at *) <;> (try rw [show B ^ 1 = B by grind]) <;> omega
theorem fold_bound {B : Int} (hB : 2 ≤ B) : ∀ (L : List Nat) (n : Nat → Int) (C : Int), (∀ k ∈ L, k < 6) → (∀ i, i < 6 → 0 ≤ n i ∧ n i ≤ C) → ∀ i, i < 6 → 0 ≤ foldN B L n i ∧ foldN B L n i ≤ C * 2 ^ L.length * B ^ (L.map deg).sum
  | [], n, C, _, h => fun i hi => by
    show 0 ≤ n i ∧ n i ≤ C * 2 ^ 0 * B ^ 0
    rw [Int.pow_zero, Int.mul_one, Int.pow_zero, Int.mul_one]; exact h i hi
  | k :: L, n, C, hL, h => fun i hi => by
    obtain ⟨f0, f1⟩ := fact_deg (hL k (.head _)) hB
    have := fold_bound hB L (nextN (fact k B) n) (C * (2 * B ^ deg k)) (fun x hx => hL x (.tail _ hx)) (fun i hi => by
      obtain ⟨a1, a2⟩ := h i hi
      obtain ⟨b1, b2⟩ := h ((i + 5) % 6) (Nat.mod_lt _ (by decide))
      unfold nextN
      generalize n i = x at *
      generalize n ((i + 5) % 6) = y at *
      have k1 := Int.mul_nonneg f0 b1
      have k2 := Int.mul_le_mul_of_nonneg_left b2 f0
      have k3 := Int.mul_le_mul_of_nonneg_left f1 (show 0 ≤ C by omega)
      rw [Int.mul_add, Int.mul_one, Int.mul_comm C (fact k B)] at k3
      omega) i hi
    rw [List.length_cons, List.map_cons, List.sum_cons, Int.pow_succ, Int.pow_add]
    have e : C * (2 ^ L.length * 2) * (B ^ deg k * B ^ (L.map deg).sum) = C * (2 * B ^ deg k) * 2 ^ L.length * B ^ (L.map deg).sum := by
      generalize B ^ deg k = u
      generalize B ^ (L.map deg).sum = v
      grind
    rw [e]
    exact this
theorem mod_of {x y Z q : Int} (h : x = y + q * Z) (h0 : 0 ≤ y) (h1 : y < Z) : x % Z = y := by
  rw [h, Int.add_mul_emod_self_right, Int.emod_eq_of_lt h0 h1]
noncomputable def figsOf (w : Nat) (x : Int) : List (List Int) := ((digs (11 * w) 6 (x % (2 ^ (66 * w) - 1))).map fun n => (digs w 3 (n % ((2 ^ w) ^ 3 - 1))).reverse).reverse
noncomputable def lightD (d : T3) : List Int := [d.2.2, d.2.1, d.1]
theorem pow_mono2 {B : Int} (hB : 1 ≤ B) {a b : Nat} (h : a ≤ b) : B ^ a ≤ B ^ b := by
  obtain ⟨c, rfl⟩ : ∃ c, b = a + c := ⟨b - a, by omega⟩
  rw [Int.pow_add]
  have h1 : 1 ≤ B ^ c := by
    have := Int.pow_pos (n := B) (m := c) (by omega)
    omega
  have h2 : 0 ≤ B ^ a := Int.le_of_lt (Int.pow_pos (by omega))
  have := Int.mul_le_mul_of_nonneg_left h1 h2
  omega
theorem div_fold {w : Nat} (hw : 15 ≤ w) {L : List Nat} (hL : ∀ k ∈ L, k < 6) (hl : L.length = 5) (hd : (L.map deg).sum ≤ 8) {c : Nat → T3} (hc : ∀ i, i < 6 → nn3 (c i) ∧ sum3 (c i) ≤ 27) :
    figsOf w (wholeL (2 ^ w) (2 ^ (11 * w)) L (dnum (11 * w) (row6 fun i => val3 (2 ^ w) (c i)))) = [lightD (foldD L c 5), lightD (foldD L c 4), lightD (foldD L c 3), lightD (foldD L c 2), lightD (foldD L c 1), lightD (foldD L c 0)] := by
  obtain ⟨B, hBe⟩ : ∃ B : Int, B = 2 ^ w := ⟨_, rfl⟩
  have hB : 32768 ≤ B := by
    rw [hBe, show (32768 : Int) = 2 ^ 15 by decide]
    exact pow_mono2 (by decide) hw
  have hW : (2 : Int) ^ (11 * w) = B ^ 11 := by rw [hBe, ← Int.pow_mul, Nat.mul_comm]
  have h66 : (2 : Int) ^ (66 * w) = (2 ^ (11 * w)) ^ 6 := by rw [← Int.pow_mul]; congr 1; omega
  have hB2 : 1 ≤ B ^ 2 := by have := pow_mono2 (B := B) (by omega) (show 0 ≤ 2 by decide); rwa [Int.pow_zero] at this
  have hBB2 : B ≤ B ^ 2 := by have := pow_mono2 (B := B) (by omega) (show 1 ≤ 2 by decide); rwa [show B ^ 1 = B by grind] at this
  have hn0 : ∀ i, i < 6 → 0 ≤ val3 B (c i) ∧ val3 B (c i) ≤ 27 * B ^ 2 := fun i hi => by
    obtain ⟨a1, a2⟩ := hc i hi
    generalize c i = z at *
    obtain ⟨x, y, z⟩ := z
    simp only [nn3, sum3, val3] at *
    have k1 := Int.mul_nonneg (show 0 ≤ B by omega) a1.2.1
    have k2 := Int.mul_nonneg (show 0 ≤ B ^ 2 by omega) a1.2.2
    have k3 := Int.mul_le_mul_of_nonneg_right hBB2 a1.2.1
    have k4 := Int.mul_le_mul_of_nonneg_left (show x + y + z ≤ 27 from a2) (show 0 ≤ B ^ 2 by omega)
    have k5 := Int.mul_le_mul_of_nonneg_right hB2 a1.1
    rw [Int.mul_add, Int.mul_add] at k4
    rw [Int.one_mul] at k5
    omega
  have hb := fold_bound (B := B) (by omega) L (fun i => val3 B (c i)) (27 * B ^ 2) hL hn0
  rw [hl] at hb
  have hlt : 27 * B ^ 2 * 2 ^ 5 * B ^ (L.map deg).sum < B ^ 11 - 1 := by
    have k1 := pow_mono2 (B := B) (by omega) hd
    have k2 := Int.mul_le_mul_of_nonneg_left k1 (show 0 ≤ 27 * B ^ 2 * 2 ^ 5 by omega)
    have k3 : 27 * B ^ 2 * 2 ^ 5 * B ^ 8 = 864 * B ^ 10 := by grind
    have k4 : B ^ 11 = B * B ^ 10 := by grind
    have k5 := Int.mul_le_mul_of_nonneg_right hB (show 0 ≤ B ^ 10 from Int.le_of_lt (Int.pow_pos (by omega)))
    have k6 : 1 ≤ B ^ 10 := by have := pow_mono2 (B := B) (by omega) (show 0 ≤ 10 by decide); rwa [Int.pow_zero] at this
    omega
  have hb' : ∀ i, i < 6 → 0 ≤ foldN B L (fun i => val3 B (c i)) i ∧ foldN B L (fun i => val3 B (c i)) i < 2 ^ (11 * w) - 1 := fun i hi => by
    have := hb i hi
    rw [hW]
    omega
  obtain ⟨q, hq⟩ := whole_fold (11 * w) B L (fun i => val3 B (c i)) 0 _ (by rw [Int.zero_mul, Int.add_zero])
  have hrow : ∀ x ∈ row6 (foldN B L fun i => val3 B (c i)), 0 ≤ x ∧ x < 2 ^ (11 * w) - 1 := by
    intro x hx
    simp only [row6, List.mem_cons, List.not_mem_nil, or_false] at hx
    rcases hx with rfl | rfl | rfl | rfl | rfl | rfl <;> exact hb' _ (by decide)
  have hrow2 : ∀ x ∈ row6 (foldN B L fun i => val3 B (c i)), 0 ≤ x ∧ x < 2 ^ (11 * w) := fun x hx => by have := hrow x hx; omega
  have hdn := dnum_rng hrow2
  have hlt6 : dnum (11 * w) (row6 (foldN B L fun i => val3 B (c i))) < (2 ^ (11 * w)) ^ 6 - 1 := by
    have z0 := hrow _ (show foldN B L (fun i => val3 B (c i)) 0 ∈ row6 _ from .head _)
    have z1 := hrow _ (show foldN B L (fun i => val3 B (c i)) 1 ∈ row6 _ from .tail _ (.head _))
    have hr5 := dnum_rng (n := 11 * w) (ds := [foldN B L (fun i => val3 B (c i)) 1, foldN B L (fun i => val3 B (c i)) 2, foldN B L (fun i => val3 B (c i)) 3, foldN B L (fun i => val3 B (c i)) 4, foldN B L (fun i => val3 B (c i)) 5]) (fun x hx => hrow2 x (.tail _ hx))
    have e5 : (2 : Int) ^ (11 * w * 5) = (2 ^ (11 * w)) ^ 5 := by rw [← Int.pow_mul]
    have hd6 : dnum (11 * w) (row6 (foldN B L fun i => val3 B (c i))) = foldN B L (fun i => val3 B (c i)) 0 + 2 ^ (11 * w) * dnum (11 * w) [foldN B L (fun i => val3 B (c i)) 1, foldN B L (fun i => val3 B (c i)) 2, foldN B L (fun i => val3 B (c i)) 3, foldN B L (fun i => val3 B (c i)) 4, foldN B L (fun i => val3 B (c i)) 5] := rfl
    simp only [List.length_cons, List.length_nil] at hr5
    rw [hd6]
    rw [show 0 + 1 + 1 + 1 + 1 + 1 = 5 from rfl, e5] at hr5
    have hWp : (0 : Int) < 2 ^ (11 * w) := pow_pos2
    generalize dnum (11 * w) [foldN B L (fun i => val3 B (c i)) 1, foldN B L (fun i => val3 B (c i)) 2, foldN B L (fun i => val3 B (c i)) 3, foldN B L (fun i => val3 B (c i)) 4, foldN B L (fun i => val3 B (c i)) 5] = t at *
    generalize (2 : Int) ^ (11 * w) = W at *
    have k1 := Int.mul_le_mul_of_nonneg_left (show t ≤ W ^ 5 - 1 by omega) (show 0 ≤ W by omega)
    rw [Int.mul_sub, Int.mul_one, show W * W ^ 5 = W ^ 6 by grind] at k1
    omega
  have hmod : wholeL B (2 ^ (11 * w)) L (dnum (11 * w) (row6 fun i => val3 B (c i))) % (2 ^ (66 * w) - 1) = dnum (11 * w) (row6 (foldN B L fun i => val3 B (c i))) := by
    rw [h66]
    exact mod_of hq hdn.1 hlt6
  have hdg := digs_dnum hrow2
  have hs := fold_small L c 27 hL hc
  rw [hl] at hs
  have hlast : ∀ i, i < 6 → (digs w 3 (foldN B L (fun i => val3 B (c i)) i % (B ^ 3 - 1))).reverse = lightD (foldD L c i) := fun i hi => by
    obtain ⟨a1, a2⟩ := hs i hi
    obtain ⟨q1, e1⟩ := fold_digits B L (fun i => val3 B (c i)) c hL (fun i hi => ⟨0, by simp⟩) i hi
    generalize foldD L c i = z at *
    obtain ⟨x, y, z⟩ := z
    simp only [nn3, sum3] at a1 a2
    have hds : ∀ d ∈ [x, y, z], 0 ≤ d ∧ d < 2 ^ w - 1 := by
      intro d hd
      simp only [List.mem_cons, List.not_mem_nil, or_false] at hd
      rw [← hBe]
      rcases hd with rfl | rfl | rfl <;> omega
    have hds2 : ∀ d ∈ [x, y, z], 0 ≤ d ∧ d < 2 ^ w := fun d hd => by have := hds d hd; omega
    have hv : val3 B (x, y, z) = dnum w [x, y, z] := by
      simp only [val3, dnum]
      rw [← hBe]
      grind
    have hlt3 : 0 ≤ val3 B (x, y, z) ∧ val3 B (x, y, z) < B ^ 3 - 1 := by
      have b0 := hds x (.head _)
      have b1 := hds y (.tail _ (.head _))
      have b2 := hds z (.tail _ (.tail _ (.head _)))
      rw [← hBe] at b0 b1 b2
      have k1 := Int.mul_le_mul_of_nonneg_left (show y ≤ B - 2 by omega) (show 0 ≤ B by omega)
      have k2 := Int.mul_le_mul_of_nonneg_left (show z ≤ B - 2 by omega) (show 0 ≤ B ^ 2 by omega)
      have k3 := Int.mul_nonneg (show 0 ≤ B by omega) b1.1
      have k4 := Int.mul_nonneg (show 0 ≤ B ^ 2 by omega) b2.1
      have e3 : B ^ 3 = B ^ 2 * B := by grind
      have e2 : B * B = B ^ 2 := by grind
      simp only [val3]
      rw [Int.mul_sub, e2] at k1
      rw [Int.mul_sub, ← e3] at k2
      omega
    rw [mod_of e1 hlt3.1 hlt3.2, hv, show (3 : Nat) = [x, y, z].length from rfl, digs_dnum hds2]
    rfl
  unfold figsOf
  rw [← hBe, hmod, show (6 : Nat) = (row6 (foldN B L fun i => val3 B (c i))).length from rfl, hdg]
  simp only [row6, List.map_cons, List.map_nil, List.reverse_cons, List.reverse_nil, List.nil_append, List.cons_append]
  rw [hlast 0 (by decide), hlast 1 (by decide), hlast 2 (by decide), hlast 3 (by decide), hlast 4 (by decide), hlast 5 (by decide)]
end Mine
end
section
open PySem PySem.W PyProof.Rows PySem.Calls
set_option maxRecDepth 100000
namespace Mine
noncomputable def p0 (l : List Int) : Int := l.getD 0 0
noncomputable def p1 (l : List Int) : Int := l.getD 1 0
noncomputable def p2 (l : List Int) : Int := l.getD 2 0
noncomputable def mixL (x y : List Int) : List Int := [p0 x + p0 y, p1 x + p1 y, p2 x + p2 y]
noncomputable def minL (x : List Int) : Int := min (p0 x) (min (p1 x) (p2 x))
noncomputable def maxL (x : List Int) : Int := max (p0 x) (max (p1 x) (p2 x))
noncomputable def bareL (x : List Int) : List Int := [p0 x - minL x, p1 x - minL x, p2 x - minL x]
noncomputable def turnedL (k : Nat) (x : List Int) : List Int :=
  let c := rotI (maxL x + minL x) k (p0 x, p1 x, p2 x)
  [c.1, c.2.1, c.2.2]
noncomputable def wheelRow (k : Nat) (ring : List (List Int)) (i : Nat) : List Int := mixL (ring.getD i []) (turnedL k (ring.getD ((i + 1) % 6) []))
noncomputable def wheelL (k : Nat) (ring : List (List Int)) : List (List Int) := (List.range 6).map (wheelRow k ring)
noncomputable def wheelAll (L : List Nat) (ring : List (List Int)) : List (List Int) := L.foldl (fun r k => wheelL k r) ring
noncomputable def greenL (x : List Int) : List Int := bareL [p0 x + p2 x, p1 x + p0 x, p2 x + p1 x]
noncomputable def plainL : Nat → List Int → List Int
  | 0, x => x
  | k + 1, x => plainL k (greenL x)
noncomputable def sixth (i : Int) : Nat := (i % 6).toNat
noncomputable def toldLight (ring : List (List Int)) (step : Int) : Nat → List Int
  | 0 => [0, 0, 0]
  | i + 1 => mixL (toldLight ring step i) (plainL (sixth (step * i)) (ring.getD i []))
noncomputable def toldL (ring : List (List Int)) (step : Int) : List (List Int) := (List.range 6).map fun (i : Nat) => bareL (plainL (sixth (0 - step * (i : Int))) (toldLight ring step 6))
noncomputable def cl (x : List Int) : Z2 := (p0 x - p2 x, p1 x - p2 x)
theorem cl_mix (x y : List Int) : cl (mixL x y) = plus (cl x) (cl y) := by
  simp only [cl, mixL, p0, p1, p2, plus, List.getD_cons_zero, List.getD_cons_succ, Prod.mk.injEq]; omega
theorem cl_bare (x : List Int) : cl (bareL x) = cl x := by
  simp only [cl, bareL, p0, p1, p2, List.getD_cons_zero, List.getD_cons_succ, Prod.mk.injEq]; omega
theorem cl_turned {k : Nat} (hk : k < 6) (x : List Int) : cl (turnedL k x) = om k (cl x) := om_rot _ hk (p0 x, p1 x, p2 x)
theorem cl_green (x : List Int) : cl (greenL x) = om 1 (cl x) := by
  unfold greenL
  rw [cl_bare]
  simp only [cl, p0, p1, p2, om, List.getD_cons_zero, List.getD_cons_succ, Prod.mk.injEq]; omega
theorem om_succ {k : Nat} (hk : k < 5) (z : Z2) : om k (om 1 z) = om (k + 1) z := by
  have h : k = 0 ∨ k = 1 ∨ k = 2 ∨ k = 3 ∨ k = 4 := by omega
  rcases h with rfl | rfl | rfl | rfl | rfl <;> simp [om] <;> omega
theorem cl_plain : ∀ {k : Nat}, k < 6 → ∀ x, cl (plainL k x) = om k (cl x)
  | 0, _, x => rfl
  | k + 1, hk, x => by rw [plainL, cl_plain (by omega), cl_green, om_succ (by omega)]
theorem min_cl (a b c : Int) : min a (min b c) = c + min (a - c) (min (b - c) 0) := by
  have h : min (b - c) 0 = min b c - c := by
    have := Int.sub_min_sub_right b c c
    rw [Int.sub_self] at this
    exact this
  rw [h, Int.sub_min_sub_right]
  generalize min a (min b c) = z
  omega
theorem bare_cl (x : List Int) : bareL x = [(cl x).1 - min (cl x).1 (min (cl x).2 0), (cl x).2 - min (cl x).1 (min (cl x).2 0), 0 - min (cl x).1 (min (cl x).2 0)] := by
  have e : bareL x = [p0 x - (p2 x + min (p0 x - p2 x) (min (p1 x - p2 x) 0)), p1 x - (p2 x + min (p0 x - p2 x) (min (p1 x - p2 x) 0)), p2 x - (p2 x + min (p0 x - p2 x) (min (p1 x - p2 x) 0))] := by
    rw [← min_cl]
    rfl
  rw [e]
  show _ = [(p0 x - p2 x) - min (p0 x - p2 x) (min (p1 x - p2 x) 0), (p1 x - p2 x) - min (p0 x - p2 x) (min (p1 x - p2 x) 0), 0 - min (p0 x - p2 x) (min (p1 x - p2 x) 0)]
  rw [← Int.sub_sub, ← Int.sub_sub, ← Int.sub_sub, Int.sub_self]
theorem bare_eq {x y : List Int} (h : cl x = cl y) : bareL x = bareL y := by rw [bare_cl, bare_cl, h]
noncomputable def zOf (ring : List (List Int)) (i : Nat) : Z2 := cl (ring.getD (i % 6) [])
theorem zOf_six (ring : List (List Int)) (i : Nat) : zOf ring (i + 6) = zOf ring i := by unfold zOf; rw [Nat.add_mod_right]
theorem wheel_len (k : Nat) (ring : List (List Int)) : (wheelL k ring).length = 6 := by unfold wheelL; simp
theorem wheel_at (k : Nat) (ring : List (List Int)) {i : Nat} (hi : i < 6) : (wheelL k ring).getD i [] = wheelRow k ring i := by
  unfold wheelL
  rw [List.getD_eq_getElem?_getD, List.getElem?_map, List.getElem?_range hi]
  rfl
theorem wheel_z {k : Nat} (hk : k < 6) (ring : List (List Int)) (i : Nat) : zOf (wheelL k ring) i = plus (zOf ring i) (om k (zOf ring (i + 1))) := by
  have hi : i % 6 < 6 := Nat.mod_lt _ (by decide)
  unfold zOf
  rw [wheel_at k ring hi, wheelRow, cl_mix, cl_turned hk, Nat.mod_add_mod]
theorem wheel_mix (z : Nat → Z2) (hz : ∀ i, z (i + 6) = z i) : ∀ (L : List Nat) (ring : List (List Int)) (q : C6), (∀ k ∈ L, k < 6) → (∀ i, zOf ring i = mixC q z i) → ∀ i, zOf (wheelAll L ring) i = mixC (L.foldl (fun q k => stepC k q) q) z i
  | [], ring, q, _, h => h
  | k :: L, ring, q, hL, h => wheel_mix z hz L (wheelL k ring) (stepC k q) (fun x hx => hL x (.tail _ hx)) fun i => by
    rw [wheel_z (hL k (.head _)), h, h, mix_step (hL k (.head _)) q z hz]
theorem wheel_cl {L : List Nat} (hL : ∀ k ∈ L, k < 6) (ring : List (List Int)) (i : Nat) : zOf (wheelAll L ring) i = mixC (foldC L) (zOf ring) i :=
  wheel_mix (zOf ring) (zOf_six ring) L ring oneC hL (fun i => (mix_one _ _).symm) i
noncomputable def zD (c : Nat → T3) (i : Nat) : Z2 := clD (c (5 - i % 6))
theorem five_tab : ∀ r : Fin 6, (5 - r.val + 5) % 6 = 5 - (r.val + 1) % 6 := by decide +kernel
theorem five_mod (i : Nat) : (5 - i % 6 + 5) % 6 = 5 - (i + 1) % 6 := by
  rw [← Nat.mod_add_mod i 6 1]
  exact five_tab ⟨i % 6, Nat.mod_lt _ (by decide)⟩
theorem nextD_z {k : Nat} (hk : k < 6) (c : Nat → T3) (i : Nat) : zD (nextD k c) i = plus (zD c i) (om k (zD c (i + 1))) := by
  unfold zD nextD
  rw [add_cl, fact_cl hk, five_mod]
theorem div_mix (z : Nat → Z2) (hz : ∀ i, z (i + 6) = z i) : ∀ (L : List Nat) (c : Nat → T3) (q : C6), (∀ k ∈ L, k < 6) → (∀ i, zD c i = mixC q z i) → ∀ i, zD (foldD L c) i = mixC (L.foldl (fun q k => stepC k q) q) z i
  | [], c, q, _, h => h
  | k :: L, c, q, hL, h => div_mix z hz L (nextD k c) (stepC k q) (fun x hx => hL x (.tail _ hx)) fun i => by
    rw [nextD_z (hL k (.head _)), h, h, mix_step (hL k (.head _)) q z hz]
theorem cl_lightD (d : T3) : cl (lightD d) = clD d := rfl
theorem sixth_lt (i : Int) : sixth i < 6 := by unfold sixth; omega
theorem om_1 {b : Nat} (hb : b < 6) (z : Z2) : om 1 (om b z) = om ((b + 1) % 6) z := by
  have h2 : b = 0 ∨ b = 1 ∨ b = 2 ∨ b = 3 ∨ b = 4 ∨ b = 5 := by omega
  obtain ⟨x, y⟩ := z
  rcases h2 with rfl | rfl | rfl | rfl | rfl | rfl <;> simp [om] <;> omega
theorem om_om : ∀ {a b : Nat}, a < 6 → b < 6 → ∀ z : Z2, om a (om b z) = om ((a + b) % 6) z
  | 0, b, _, hb, z => by rw [Nat.zero_add, Nat.mod_eq_of_lt hb]; rfl
  | a + 1, b, ha, hb, z => by
    rw [← om_succ (by omega), om_1 hb, om_om (by omega) (Nat.mod_lt _ (by decide)), Nat.add_mod_mod, ← Nat.add_assoc, Nat.add_right_comm]
theorem om_one {k : Nat} (hk : k < 6) (z : Z2) : om k z = act (omC k (1, 0)) z := by
  have h : k = 0 ∨ k = 1 ∨ k = 2 ∨ k = 3 ∨ k = 4 ∨ k = 5 := by omega
  obtain ⟨x, y⟩ := z
  rcases h with rfl | rfl | rfl | rfl | rfl | rfl <;> simp only [om, act, omC, Prod.mk.injEq] <;> constructor <;> grind
theorem zOf_lt (ring : List (List Int)) {i : Nat} (h : i < 6) : cl (ring.getD i []) = zOf ring i := by unfold zOf; rw [Nat.mod_eq_of_lt h]
theorem told_light (ring : List (List Int)) (step : Int) : cl (toldLight ring step 6) = plus (om (sixth (step * ((0 : Nat) : Int))) (zOf ring 0)) (plus (om (sixth (step * ((1 : Nat) : Int))) (zOf ring 1)) (plus (om (sixth (step * ((2 : Nat) : Int))) (zOf ring 2)) (plus (om (sixth (step * ((3 : Nat) : Int))) (zOf ring 3)) (plus (om (sixth (step * ((4 : Nat) : Int))) (zOf ring 4)) (om (sixth (step * ((5 : Nat) : Int))) (zOf ring 5)))))) := by
  simp only [toldLight, cl_mix, cl_plain (sixth_lt _)]
  rw [zOf_lt ring (by decide : 0 < 6), zOf_lt ring (by decide : 1 < 6), zOf_lt ring (by decide : 2 < 6), zOf_lt ring (by decide : 3 < 6), zOf_lt ring (by decide : 4 < 6), zOf_lt ring (by decide : 5 < 6)]
  have h0 : cl [0, 0, 0] = (0, 0) := rfl
  rw [h0]
  generalize om (sixth _) (zOf ring 0) = a0
  generalize om (sixth _) (zOf ring 1) = a1
  generalize om (sixth _) (zOf ring 2) = a2
  generalize om (sixth _) (zOf ring 3) = a3
  generalize om (sixth _) (zOf ring 4) = a4
  generalize om (sixth _) (zOf ring 5) = a5
  simp only [plus, Prod.mk.injEq]
  omega
theorem act_one {k : Nat} (hk : k < 6) (z : Z2) : act (omC k (1, 0)) z = om k z := (om_one hk z).symm
theorem sixth_mod (a b : Int) : sixth (a + 6 * b) = sixth a := by
  unfold sixth
  rw [Int.add_mul_emod_self_left]
theorem exps_tab : ∀ m : Fin 6, ∀ i : Fin 6, ∀ j : Fin 6, (sixth (0 - ((m.val : Int) + 3) * (i.val : Int)) + sixth (((m.val : Int) + 3) * (j.val : Int))) % 6 = (m.val + 3) * ((j.val + 6 - i.val) % 6) % 6 := by decide +kernel
theorem exps (n : Nat) {i j : Nat} (hi : i < 6) (hj : j < 6) : (sixth (0 - ((n : Int) + 3) * (i : Int)) + sixth (((n : Int) + 3) * (j : Int))) % 6 = (n + 3) * ((j + 6 - i) % 6) % 6 := by
  have t := exps_tab ⟨n % 6, Nat.mod_lt _ (by decide)⟩ ⟨i, hi⟩ ⟨j, hj⟩
  dsimp only at t
  have e : (n : Int) = ((n % 6 : Nat) : Int) + 6 * ((n / 6 : Nat) : Int) := by omega
  have e1 : 0 - ((n : Int) + 3) * (i : Int) = (0 - (((n % 6 : Nat) : Int) + 3) * (i : Int)) + 6 * (-(((n / 6 : Nat) : Int) * (i : Int))) := by
    rw [e]
    generalize ((n % 6 : Nat) : Int) = a
    generalize ((n / 6 : Nat) : Int) = b
    grind
  have e2 : ((n : Int) + 3) * (j : Int) = (((n % 6 : Nat) : Int) + 3) * (j : Int) + 6 * (((n / 6 : Nat) : Int) * (j : Int)) := by
    rw [e]
    generalize ((n % 6 : Nat) : Int) = a
    generalize ((n / 6 : Nat) : Int) = b
    grind
  rw [e1, e2, sixth_mod, sixth_mod, t, Nat.mul_mod, Nat.mul_mod (n + 3), Nat.add_mod n 3, Nat.add_mod (n % 6) 3, Nat.mod_mod]
theorem told_cl (ring : List (List Int)) (n : Nat) (i : Nat) (hi : i < 6) :
    cl (plainL (sixth (0 - ((n : Int) + 3) * ((i : Nat) : Int))) (toldLight ring ((n : Int) + 3) 6)) = mixC (wantC (n + 3)) (zOf ring) i := by
  rw [cl_plain (sixth_lt _), told_light]
  simp only [om_plus (sixth_lt _), om_om (sixth_lt _) (sixth_lt _)]
  rw [exps n hi (by decide), exps n hi (by decide), exps n hi (by decide), exps n hi (by decide), exps n hi (by decide), exps n hi (by decide)]
  unfold mixC wantC
  rw [act_one (by decide), act_one (Nat.mod_lt _ (by decide)), act_one (Nat.mod_lt _ (by decide)), act_one (Nat.mod_lt _ (by decide)), act_one (Nat.mod_lt _ (by decide)), act_one (Nat.mod_lt _ (by decide))]
  have hz := zOf_six ring
  have z6 : zOf ring 6 = zOf ring 0 := hz 0
  have z7 : zOf ring 7 = zOf ring 1 := hz 1
  have z8 : zOf ring 8 = zOf ring 2 := hz 2
  have z9 : zOf ring 9 = zOf ring 3 := hz 3
  have z10 : zOf ring 10 = zOf ring 4 := hz 4
  have e0 : (n + 3) * 0 % 6 = 0 := by omega
  have e1 : (n + 3) * 1 % 6 = (n + 3) % 6 := by omega
  have h : i = 0 ∨ i = 1 ∨ i = 2 ∨ i = 3 ∨ i = 4 ∨ i = 5 := by omega
  rcases h with rfl | rfl | rfl | rfl | rfl | rfl
  all_goals simp only [Nat.zero_add, Nat.reduceAdd, Nat.reduceSub, Nat.reduceMod, z6, z7, z8, z9, z10, e0, e1]
  all_goals
    generalize om _ (zOf ring 0) = a0
    generalize om _ (zOf ring 1) = a1
    generalize om _ (zOf ring 2) = a2
    generalize om _ (zOf ring 3) = a3
    generalize om _ (zOf ring 4) = a4
    generalize om _ (zOf ring 5) = a5
    simp only [plus, Prod.mk.injEq]
    omega
end Mine
end
section
open PySem PySem.W PyProof.Rows PySem.Calls
set_option maxRecDepth 100000
namespace Mine
theorem turns_mod (n : Nat) : turnsL n = turnsL (n % 720) := by
  unfold turnsL
  have e6 : n % 720 % 6 = n % 6 := Nat.mod_mod_of_dvd n (by decide)
  have h : n % 6 = 0 ∨ n % 6 = 1 ∨ n % 6 = 2 ∨ n % 6 = 3 ∨ n % 6 = 4 ∨ n % 6 = 5 := by omega
  have key : ∀ l : List Nat, l.length = 5 → dealt 5 (n / 6) l = dealt 5 (n % 720 / 6) l := by
    intro l hl
    have g1 : n % 720 / 6 = n / 6 % 120 := Nat.mod_mul_right_div_self n 6 120
    have g2 : n / 6 % 120 / 5 = n / 6 / 5 % 24 := Nat.mod_mul_right_div_self (n / 6) 5 24
    have g3 : n / 6 / 5 % 24 / 4 = n / 6 / 5 / 4 % 6 := Nat.mod_mul_right_div_self (n / 6 / 5) 4 6
    have g4 : n / 6 / 5 / 4 % 6 / 3 = n / 6 / 5 / 4 / 3 % 2 := Nat.mod_mul_right_div_self (n / 6 / 5 / 4) 3 2
    have f5 : n % 720 / 6 % 5 = n / 6 % 5 := by rw [g1, Nat.mod_mod_of_dvd _ (by decide)]
    have f4 : n % 720 / 6 / 5 % 4 = n / 6 / 5 % 4 := by rw [g1, g2, Nat.mod_mod_of_dvd _ (by decide)]
    have f3 : n % 720 / 6 / 5 / 4 % 3 = n / 6 / 5 / 4 % 3 := by rw [g1, g2, g3, Nat.mod_mod_of_dvd _ (by decide)]
    have f2 : n % 720 / 6 / 5 / 4 / 3 % 2 = n / 6 / 5 / 4 / 3 % 2 := by rw [g1, g2, g3, g4, Nat.mod_mod_of_dvd _ (by decide)]
    have el : ∀ (l : List Nat) (k i : Nat), l.length = k + 1 → i % (k + 1) < l.length ∧ (l.eraseIdx (i % (k + 1))).length = k := fun l k i h => by
      have : i % (k + 1) < l.length := by rw [h]; exact Nat.mod_lt _ (by omega)
      exact ⟨this, by rw [List.length_eraseIdx_of_lt this, h]; omega⟩
    simp only [dealt, hl]
    have l4 := (el l 4 (n / 6) hl).2
    simp only [f5, l4]
    have l3 := (el _ 3 (n / 6 / 5) l4).2
    simp only [f4, l3]
    have l2 := (el _ 2 (n / 6 / 5 / 4) l3).2
    simp only [f3, l2]
    have l1 := (el _ 1 (n / 6 / 5 / 4 / 3) l2).2
    simp only [f2, l1, Nat.mod_one]
  rw [e6]
  rcases h with h | h | h | h | h | h <;> rw [h] <;> exact key _ rfl
theorem three_mod (n k : Nat) : (n + 3) * k % 6 = (n % 720 + 3) * k % 6 := by
  rw [Nat.mul_mod, Nat.add_mod n 3, ← Nat.mod_mod_of_dvd n (show 6 ∣ 720 by decide), ← Nat.add_mod, ← Nat.mul_mod]
theorem want_mod (n : Nat) : wantC (n + 3) = wantC (n % 720 + 3) := by
  unfold wantC
  have e1 := three_mod n 1
  rw [Nat.mul_one, Nat.mul_one] at e1
  rw [e1, three_mod n 2, three_mod n 3, three_mod n 4, three_mod n 5]
theorem deg_tab : ((List.range 720).all fun n => decide (((turnsL n).map deg).sum ≤ 8)) = true := by decide +kernel
theorem turns_at (n : Nat) : foldC (turnsL n) = wantC (n + 3) ∧ (∀ k ∈ turnsL n, k < 6) ∧ (turnsL n).length = 5 ∧ ((turnsL n).map deg).sum ≤ 8 := by
  have hm : n % 720 ∈ List.range 720 := List.mem_range.mpr (Nat.mod_lt _ (by decide))
  have h := List.all_eq_true.mp turns_tab _ hm
  have hd := List.all_eq_true.mp deg_tab _ hm
  simp only [Bool.and_eq_true, decide_eq_true_eq, List.all_eq_true] at h hd
  rw [turns_mod n, want_mod n]
  exact ⟨h.1.1.1, h.1.1.2, h.1.2, hd⟩
noncomputable def mirD (ring : List (List Int)) (i : Nat) : T3 := (p2 (ring.getD (5 - i) []), p1 (ring.getD (5 - i) []), p0 (ring.getD (5 - i) []))
noncomputable def endsL (n : Nat) (ring : List (List Int)) : List (List Int) := (wheelAll (turnsL n) ring).map bareL
noncomputable def othersL (w n : Nat) (ring : List (List Int)) : List (List Int) := (figsOf w (wholeL (2 ^ w) (2 ^ (11 * w)) (turnsL n) (dnum (11 * w) (row6 fun i => val3 (2 ^ w) (mirD ring i))))).map bareL
noncomputable def Nine (ring : List (List Int)) : Prop := ∀ i, i < 6 → (0 ≤ p0 (ring.getD i []) ∧ p0 (ring.getD i []) ≤ 9) ∧ (0 ≤ p1 (ring.getD i []) ∧ p1 (ring.getD i []) ≤ 9) ∧ (0 ≤ p2 (ring.getD i []) ∧ p2 (ring.getD i []) ≤ 9)
theorem list6 {α : Type} {l : List α} (h : l.length = 6) (d : α) : l = [l.getD 0 d, l.getD 1 d, l.getD 2 d, l.getD 3 d, l.getD 4 d, l.getD 5 d] := by
  match l, h with
  | [_, _, _, _, _, _], _ => rfl
theorem wheelAll_len : ∀ (L : List Nat) (ring : List (List Int)), ring.length = 6 → (wheelAll L ring).length = 6
  | [], _, h => h
  | k :: L, ring, _ => wheelAll_len L (wheelL k ring) (wheel_len k ring)
theorem ends_told (n : Nat) {ring : List (List Int)} (hl : ring.length = 6) : endsL n ring = toldL ring ((n : Int) + 3) := by
  have h := turns_at n
  unfold endsL toldL
  rw [list6 (wheelAll_len (turnsL n) ring hl) []]
  rw [show List.range 6 = [0, 1, 2, 3, 4, 5] from rfl]
  simp only [List.map_cons, List.map_nil]
  have key : ∀ i, i < 6 → bareL ((wheelAll (turnsL n) ring).getD i []) = bareL (plainL (sixth (0 - ((n : Int) + 3) * ((i : Nat) : Int))) (toldLight ring ((n : Int) + 3) 6)) := fun i hi => by
    refine bare_eq ?_
    rw [told_cl ring n i hi, zOf_lt _ hi, wheel_cl h.2.1, h.1]
  rw [key 0 (by decide), key 1 (by decide), key 2 (by decide), key 3 (by decide), key 4 (by decide), key 5 (by decide)]
theorem ends_others {w : Nat} (hw : 15 ≤ w) (n : Nat) {ring : List (List Int)} (hl : ring.length = 6) (h9 : Nine ring) : endsL n ring = othersL w n ring := by
  have h := turns_at n
  unfold endsL othersL
  rw [div_fold hw h.2.1 h.2.2.1 h.2.2.2 (c := mirD ring) (fun i hi => by
    obtain ⟨a, b, c⟩ := h9 (5 - i) (by omega)
    simp only [nn3, sum3, mirD]
    omega)]
  rw [list6 (wheelAll_len (turnsL n) ring hl) []]
  simp only [List.map_cons, List.map_nil]
  have hz : ∀ i, zD (mirD ring) i = zOf ring i := fun i => by
    have : i % 6 < 6 := Nat.mod_lt _ (by decide)
    unfold zD zOf clD mirD cl
    rw [show 5 - (5 - i % 6) = i % 6 by omega]
  have key : ∀ i, i < 6 → bareL ((wheelAll (turnsL n) ring).getD i []) = bareL (lightD (foldD (turnsL n) (mirD ring) (5 - i))) := fun i hi => by
    refine bare_eq ?_
    rw [cl_lightD, zOf_lt _ hi, wheel_cl h.2.1]
    have := div_mix (zOf ring) (zOf_six ring) (turnsL n) (mirD ring) oneC h.2.1 (fun i => by rw [hz, mix_one]) i
    unfold zD at this
    rw [Nat.mod_eq_of_lt hi] at this
    rw [this]
    rfl
  rw [key 0 (by decide), key 1 (by decide), key 2 (by decide), key 3 (by decide), key 4 (by decide), key 5 (by decide)]
noncomputable def Upto (s : Int) (x : List Int) : Prop := x.length = 3 ∧ (0 ≤ p0 x ∧ p0 x ≤ s) ∧ (0 ≤ p1 x ∧ p1 x ≤ s) ∧ (0 ≤ p2 x ∧ p2 x ≤ s)
theorem turned_one {s M m a : Int} (h0 : 0 ≤ m) (hs : M ≤ s) (hm : m ≤ a) (hM : a ≤ M) : (0 ≤ a ∧ a ≤ s) ∧ (0 ≤ M + m - a ∧ M + m - a ≤ s) := by omega
theorem turned_upto {s : Int} {k : Nat} (hk : k < 6) {x : List Int} (h : Upto s x) : Upto s (turnedL k x) := by
  obtain ⟨h0, h1, h2, h3⟩ := h
  have hM := turned_max h1.2 h2.2 h3.2
  have hm := turned_min h1.1 h2.1 h3.1
  obtain ⟨m1, m2, m3⟩ := max_ge (p0 x) (p1 x) (p2 x)
  obtain ⟨n1, n2, n3⟩ := min_le3 (p0 x) (p1 x) (p2 x)
  obtain ⟨A1, A2⟩ := turned_one hm hM n1 m1
  obtain ⟨B1, B2⟩ := turned_one hm hM n2 m2
  obtain ⟨C1, C2⟩ := turned_one hm hM n3 m3
  have h6 : k = 0 ∨ k = 1 ∨ k = 2 ∨ k = 3 ∨ k = 4 ∨ k = 5 := by omega
  rcases h6 with rfl | rfl | rfl | rfl | rfl | rfl
  · exact ⟨rfl, A1, B1, C1⟩
  all_goals first | exact ⟨rfl, A1, B1, C1⟩ | exact ⟨rfl, A2, B2, C2⟩ | exact ⟨rfl, B1, C1, A1⟩ | exact ⟨rfl, C1, A1, B1⟩ | exact ⟨rfl, B2, C2, A2⟩ | exact ⟨rfl, C2, A2, B2⟩
theorem add_upto {s t a b : Int} (h : 0 ≤ a ∧ a ≤ s) (h' : 0 ≤ b ∧ b ≤ t) : 0 ≤ a + b ∧ a + b ≤ s + t := ⟨Int.add_nonneg h.1 h'.1, Int.add_le_add h.2 h'.2⟩
theorem mix_upto {s t : Int} {x y : List Int} (h : Upto s x) (h' : Upto t y) : Upto (s + t) (mixL x y) := ⟨rfl, add_upto h.2.1 h'.2.1, add_upto h.2.2.1 h'.2.2.1, add_upto h.2.2.2 h'.2.2.2⟩
theorem wheel_upto {s : Int} {k : Nat} (hk : k < 6) {ring : List (List Int)} (h : ∀ i, i < 6 → Upto s (ring.getD i [])) : ∀ i, i < 6 → Upto (s + s) ((wheelL k ring).getD i []) := fun i hi => by
  rw [wheel_at k ring hi]
  exact mix_upto (h i hi) (turned_upto hk (h _ (Nat.mod_lt _ (by decide))))
end Mine
end
section
open PySem PySem.W PyProof.Rows PySem.Calls
set_option maxRecDepth 100000
namespace Mine
end Mine
namespace Mine
end Mine
namespace Mine
theorem news_tail {h₀ h : Heap} {L : Addr} {p : Addr × Obj} {T : Led} (N : News h₀ L h (p :: T)) : News h₀ L h T := fun q hq => N q (.tail _ hq)
end Mine
end
section
open PySem PySem.W PyProof.Rows PySem.Calls
open PyProof.Rows.LCg
set_option maxRecDepth 100000
namespace Mine
open PyProof.Rows.LCt
section
variable {prog : Program} {w : World} {A : Around} {E : Value → Shared → Prop} {s : Shared} {h₀ : Heap} {L : Addr} {m : Str → Option Value} {news : Led} {l l' : Addr} {vs vs' : List Value} {ns ns' : List Int} {k k' : Nat}
end
end Mine
end
section
open PySem PySem.W PyProof.Rows PySem.Calls
set_option maxRecDepth 100000
namespace Mine
local macro_rules | `(tactic| walk_at "call builtin:max") => `(tactic| (k_here; refine Stop.mk ?_))
local macro_rules | `(tactic| walk_at "call builtin:min") => `(tactic| (k_here; refine Stop.mk ?_))
theorem rgb_rng {r g b : Int} (hr : 0 ≤ r ∧ r < 1048576) (hg : 0 ≤ g ∧ g < 1048576) (hb : 0 ≤ b ∧ b < 1048576) :
    0 ≤ min r (min g b) ∧ max r (max g b) < 1048576 ∧ min r (min g b) ≤ max r (max g b) ∧ r ≤ max r (max g b) ∧ g ≤ max r (max g b) ∧ b ≤ max r (max g b) ∧ 0 ≤ r ∧ 0 ≤ g ∧ 0 ≤ b :=
  ⟨Int.le_min.mpr ⟨hr.1, Int.le_min.mpr ⟨hg.1, hb.1⟩⟩, Int.max_lt.mpr ⟨hr.2, Int.max_lt.mpr ⟨hg.2, hb.2⟩⟩, Int.le_trans (Int.min_le_left _ _) (Int.le_max_left _ _), Int.le_max_left _ _, Int.le_trans (Int.le_max_left g b) (Int.le_max_right r _), Int.le_trans (Int.le_max_right g b) (Int.le_max_right r _), hr.1, hg.1, hb.1⟩
section
variable {prog : Program} {w : World} {A : Around} {E : Value → Shared → Prop} {s : Shared} {t u : Tok} {r g b : Int} {Q : Value → Shared → Prop}
theorem divm_K (hA : A.handled = none) (hr : 0 ≤ r ∧ r < 1048576) (hg : 0 ≤ g ∧ g < 1048576) (hb : 0 ≤ b ∧ b < 1048576) (hne : min r (min g b) ≠ max r (max g b))
    (h : Q (.float (fdv (max r (max g b) - min r (min g b)) (max r (max g b))) s.toks) { s with toks := s.toks + 1 }) : wpAny (model prog w) A (binaryOp .Div (.int (max r (max g b) - min r (min g b)) t) (.int (max r (max g b)) u)) Q E s := by
  have z := rgb_rng hr hg hb
  generalize max r (max g b) = M at *
  generalize min r (min g b) = m at *
  exact divii_K hA (by omega) (by omega) h
theorem divr_K {x : Int} (hA : A.handled = none) (hr : 0 ≤ r ∧ r < 1048576) (hg : 0 ≤ g ∧ g < 1048576) (hb : 0 ≤ b ∧ b < 1048576) (hne : min r (min g b) ≠ max r (max g b)) (hx : x = r ∨ x = g ∨ x = b)
    (h : Q (.float (fdv (max r (max g b) - x) (max r (max g b) - min r (min g b))) s.toks) { s with toks := s.toks + 1 }) : wpAny (model prog w) A (binaryOp .Div (.int (max r (max g b) - x) t) (.int (max r (max g b) - min r (min g b)) u)) Q E s := by
  have z := rgb_rng hr hg hb
  have hx2 : 0 ≤ x ∧ x ≤ max r (max g b) := by
    rcases hx with rfl | rfl | rfl
    · exact ⟨z.2.2.2.2.2.2.1, z.2.2.2.1⟩
    · exact ⟨z.2.2.2.2.2.2.2.1, z.2.2.2.2.1⟩
    · exact ⟨z.2.2.2.2.2.2.2.2, z.2.2.2.2.2.1⟩
  have zM := z.2.1
  have h0 : max r (max g b) - min r (min g b) ≠ 0 := fun e => hne (Int.sub_eq_zero.mp e).symm
  clear z hx hr hg hb
  generalize max r (max g b) = M at *
  exact divii_K hA (by clear hne h0 h; omega) h0 h
end
local macro_rules | `(tactic| walk_at "binaryOp Div int int") => `(tactic| (k_here; first | (refine' divm_K ?k0 ?k1 ?k2 ?k3 ?k4 ?_; (case k0 => with_unfolding_all exact rfl); (case k1 => assumption); (case k2 => assumption); (case k3 => assumption); (case k4 => assumption)) | (refine' divr_K ?k0 ?k1 ?k2 ?k3 ?k4 ?k5 ?_; (case k0 => with_unfolding_all exact rfl); (case k1 => assumption); (case k2 => assumption); (case k3 => assumption); (case k4 => assumption); (case k5 => first | exact .inl rfl | exact .inr (.inl rfl) | exact .inr (.inr rfl)))))
set_option maxHeartbeats 8000000 in
theorem rgb_spec (w : World) (loose mean mg mb) (T : Led) (r g b : Int) (t1 t2 t3 : Tok) (hr : 0 ≤ r ∧ r < 1048576) (hg : 0 ≤ g ∧ g < 1048576) (hb : 0 ≤ b ∧ b < 1048576) :
   Spec PySem.Challenge.pw_wf0044_02 w (Mine.hd.heap_39 w.params) topProg loose mean mg mb 5 20 70 [.int r t1, .int g t2, .int b t3] T (rgbPost r g b) := by
  unfold Spec
  intro dp un gd cn cs a ccd cl outer A₀ base h₀ L m s Q E B F X N Tp hk hd hu hret
  refine wpAny_call ?_
  have hk0 : (PySem.Challenge.rw_wf0044_02 = PySem.Challenge.rw_wf0044_02 ∧ Mine.hd.heap_39 = Mine.hd.heap_39) := by (k_fill; exact ⟨rfl, rfl⟩)
  clear hk0
  k_dflt ktr_enter
  k_steps
  refine Stop.in ?_
  first | ((with_reducible show wpAny _ _ (call (Value.builtin _) [Value.int _ _, Value.int _ _, Value.int _ _]) _ _ _); refine' max3_K ?y1k0 ?y1k1 ?y1k2 ?_; (case y1k0 => exact rfl); (case y1k1 => k_asm); (case y1k2 => k_asm); k_whole; intro t' h' tk' F' N'; (try k_sweep)) | fail
  k_steps
  refine Stop.in ?_
  first | ((with_reducible show wpAny _ _ (call (Value.builtin _) [Value.int _ _, Value.int _ _, Value.int _ _]) _ _ _); refine' min3_K ?y2k0 ?y2k1 ?y2k2 ?_; (case y2k0 => exact rfl); (case y2k1 => k_asm); (case y2k2 => k_asm); k_whole; intro t' h' tk' F' N'; (try k_sweep)) | fail
  k_steps
  · exact hret1 hret (by assumption) (by assumption) (by assumption) (rgbPost0 (by assumption))
  · refine hret1 hret (by assumption) (by assumption) (by assumption) (rgbPostN (by assumption) rfl ?_)
    rw [if_pos (by assumption)]
  · refine hret1 hret (by assumption) (by assumption) (by assumption) (rgbPostN (by assumption) rfl ?_)
    rw [if_neg (by assumption), if_pos (by assumption)]
  · refine hret1 hret (by assumption) (by assumption) (by assumption) (rgbPostN (by assumption) rfl ?_)
    rw [if_neg (by assumption), if_neg (by assumption)]
end Mine
end
section
open PySem PySem.W PyProof.Rows PySem.Calls
open PyProof.Rows.LCg
set_option maxRecDepth 100000
namespace Mine
local macro_rules | `(tactic| walk_at "eval ListComp") => `(tactic| (k_here; refine Stop.mk ?_))
local macro_rules | `(tactic| walk_at "call type:zip") => `(tactic| (k_here; refine Stop.mk ?_))
noncomputable def isL (T' : Led) (v : Value) (xs : List Int) : Prop := ∃ d ws k, v = .ref d ∧ (d, listOf ws.toArray k) ∈ T' ∧ IntsAre ws xs
set_option maxHeartbeats 8000000 in
theorem mixed_spec (w : World) (loose mean mg mb) (T : Led) (D1 D2 : Addr) (k1 k2 : Nat) (vs1 vs2 : List Value) (a1 b1 c1 a2 b2 c2 : Int) (h1 : (D1, listOf vs1.toArray k1) ∈ T) (h2 : (D2, listOf vs2.toArray k2) ∈ T) (i1 : IntsAre vs1 [a1, b1, c1]) (i2 : IntsAre vs2 [a2, b2, c2]) :
   SpecT PySem.Challenge.pw_wf0044_02 w (Mine.hd.heap_39 w.params) topProg loose mean mg mb 5 20 89 [.ref D1, .ref D2] T (fun v T' => ∃ D ws k, v = .ref D ∧ T' = (D, listOf ws.toArray k) :: T ∧ (∀ p ∈ T, p.1 ≠ D) ∧ IntsAre ws [a1 + a2, b1 + b2, c1 + c2]) := by
  unfold SpecT
  intro dp un gd cn cs a ccd cl outer A₀ base h₀ L m s Q E B F X N Tp hk hd hu hret
  refine wpAny_call ?_
  have hk0 : (PySem.Challenge.rw_wf0044_02 = PySem.Challenge.rw_wf0044_02 ∧ Mine.hd.heap_39 = Mine.hd.heap_39) := by (k_fill; exact ⟨rfl, rfl⟩)
  clear hk0
  cases i1 with | cons _ ta i1 => cases i1 with | cons _ tb i1 => cases i1 with | cons _ tc i1 => cases i1 with | nil =>
  cases i2 with | cons _ ua i2 => cases i2 with | cons _ ub i2 => cases i2 with | cons _ uc i2 => cases i2 with | nil =>
  k_dflt ktr_enter
  k_steps
  refine Stop.in ?_
  k_dflt (refine ListComp_Z (by rfl) (by rfl) (by decide) ?_)
  k_steps
  refine Stop.in ?_
  refine zip_blk (n := 3) (fun i => [a1, b1, c1].getD i 0 + [a2, b2, c2].getD i 0) rfl (by decide) rfl rfl rfl (by decide) (by assumption) (by assumption) h1 h2 rfl rfl (by omega) ?_ ?_
  · intro i v0 v1 C oC D oD m₂ h tk E' e0 e1 hC ha hb F2 N2
    rcases i with _ | _ | _ | i
    all_goals (simp only [List.getElem?_cons_zero, List.getElem?_cons_succ, List.getElem?_nil, Option.some.injEq, reduceCtorEq] at e0 e1 <;> (subst e0; subst e1))
    all_goals k_steps
    all_goals exact ⟨_, _, rfl, rfl⟩
  · intro D h tk ys hys F2 N2 ne
    k_steps
    exact hret _ _ _ _ (by assumption) (by assumption) ⟨D, ys, ys.length, rfl, rfl, ne, hys⟩
end Mine
end
section
open PySem PySem.W PyProof.Rows PySem.Calls
open PyProof.Rows.LCg
set_option maxRecDepth 100000
namespace Mine
inductive rowPost (xs : List Int) (T : Led) (v : Value) (T' : Led) : Prop
  | mk (D : Addr) (ws : List Value) (k : Nat) (e1 : v = .ref D) (e2 : T' = (D, listOf (List.toArray ws) k) :: T) (e3 : ∀ q ∈ T, q.1 ≠ D) (e4 : IntsAre ws xs) : rowPost xs T v T'
theorem three {xs : List Int} (h : xs.length = 3) : xs = [p0 xs, p1 xs, p2 xs] := by
  match xs, h with
  | [_, _, _], _ => rfl
local macro_rules | `(tactic| k_mem) => `(tactic| first | assumption | (apply List.Mem.tail; k_mem))
local macro_rules | `(tactic| walk_at "eval ListComp") => `(tactic| (k_here; refine Stop.mk ?_))
local macro_rules | `(tactic| walk_at "pyIter ref") => `(tactic| (k_here; refine Stop.mk ?_))
local macro_rules | `(tactic| walk_at "call builtin:min") => `(tactic| (k_here; refine Stop.mk ?_))
local macro_rules | `(tactic| walk_at "CompEnd") => `(tactic| (refine Stop.mk ?_))
theorem apart_lt {c : Addr} : ∀ {l : Led}, (∀ p ∈ l, p.1 < c) → ApartOr (c + 1) l
  | [], _ => trivial
  | p :: r, h => ⟨.inl (by have := h p (.head _); show @Ne Nat _ _; omega), apart_lt fun q hq => h q (.tail _ hq)⟩
local macro_rules | `(tactic| walk_at "storeName int") => `(tactic| (k_here; refine Stop.mk ?_))
local macro_rules | `(tactic| walk_at "eval Name") => `(tactic| (k_here; (with_reducible show wpAny _ _ (eval (Expr.Name _ _) (compEnvC _ _ _ _)) _ _ _); k_dflt (refine' lcf_cell ?qN ?qc ?qm ?qd ?_ ?qa ?qb; (case qa => rfl); (case qb => rfl); (case qN => k_asm); (case qc => rfl); (case qm => k_mem); (case qd => k_asm); k_whole)))
theorem min_is {x : List Int} {M : Int} (hx : x.length = 3) (h : M ∈ x) (h2 : ∀ y ∈ x, M ≤ y) : M = minL x := by
  rw [three hx] at h h2
  have h0 := h2 _ (.head _)
  have h1 := h2 _ (.tail _ (.head _))
  have h3 := h2 _ (.tail _ (.tail _ (.head _)))
  simp only [List.mem_cons, List.not_mem_nil, or_false] at h
  refine Int.le_antisymm (turned_min h0 h1 h3) ?_
  rcases h with h | h | h
  · rw [h]; exact (min_le3 _ _ _).1
  · rw [h]; exact (min_le3 _ _ _).2.1
  · rw [h]; exact (min_le3 _ _ _).2.2
set_option maxHeartbeats 8000000 in
theorem bare_spec (w : World) (loose mean mg mb) (T : Led) (D : Addr) (k : Nat) (vs : List Value) (xs : List Int) (hD : (D, listOf vs.toArray k) ∈ T) (hi : IntsAre vs xs) (h3 : xs.length = 3) :
   SpecT PySem.Challenge.pw_wf0044_02 w (Mine.hd.heap_39 w.params) topProg loose mean mg mb 5 20 94 [.ref D] T (rowPost (bareL xs) T) := by
  unfold SpecT
  intro dp un gd cn cs a ccd cl outer A₀ base h₀ L m s Q E B F X N Tp hk hd hu hret
  refine wpAny_call ?_
  have hk0 : (PySem.Challenge.rw_wf0044_02 = PySem.Challenge.rw_wf0044_02 ∧ Mine.hd.heap_39 = Mine.hd.heap_39) := by (k_fill; exact ⟨rfl, rfl⟩)
  clear hk0
  k_dflt (refine' code_defC ?k1 ?k2 ?k3 ?k4 ?k5 ?kA ?kF ?kK ?k6 ?k7 ?k8 ?k9 ?kB ?kD ?_ ?c2 ?c3 ?c4; (case kA => exact rfl); (case kF => exact rfl); (case kK => assumption); (case k1 => k_asm); (case k2 => k_asm); (case k3 => k_asm); (case k4 => k_asm); (case k5 => k_asm); (case k6 => k_is); (case k7 => k_is); (case k8 => ktr_room); (case k9 => exact BindsTo.of_eq rfl); (case kB => exact rfl); (case kD => decide +kernel); (case c2 => exact rfl); (case c3 => exact rfl); (case c4 => exact rfl); k_whole; intro g' L' h' tk' cells' FG' F' N' Y' B' X' T' l1; (try k_lt l1); k_cells Y'; (try simp only [List.cons_append, List.nil_append] at N'); (try dsimp only); (try k_lift B'); (try k_fold))
  k_steps
  refine Stop.in ?_
  rename Fr _ _ _ _ => FA
  rename News _ _ _ _ => NA
  refine kso_min FA NA (PySem.IsL.isList (n := k) (NA _ (.tail _ hD)).1) hi (by rw [h3]; decide) rfl fun h1 M t1 tk1 F1 N1 hM hM2 => ?_
  have hMe := min_is h3 hM hM2
  subst hMe
  k_steps
  refine Stop.in ?_
  rename ∀ p ∈ T, _ => lT
  refine stCNk (own := []) (rest := T) F1 N1 rfl (by assumption) trivial (apart_lt lT) ?_
  intro h2 o2 F2 N2 d2
  dsimp only [List.nil_append] at N2
  k_steps
  refine Stop.in ?_
  k_dflt (refine ListComp_W (by k_asm) (by rfl) (by decide) (by rfl) (by decide) (by rfl) ?_)
  k_steps
  refine Stop.in ?_
  refine blk_list rfl (by k_asm) (by k_asm) (.tail _ hD) (by rw [hi.length, h3]; decide) fun gh => ?_
  refine comp_ints (fun j => xs.getD j 0 - minL xs) ?_ ?_
  · intro j v ys I2 oI C oC D2 m₂ h2 tk2 E' hj hP hC hx2 F6 N6 off6 ne6
    refine Classical.byContradiction fun hG' => ?_
    obtain ⟨c, u, rfl, hdc⟩ := IntsAre.at hi j v hP
    refine hG' ?_
    clear hG'
    k_steps
    refine Stop.in ?_
    refine CompEnd.fin0 (by assumption) (by assumption) off6 (.tail _ hD) ?_
    rw [List.getD_eq_getElem?_getD, hdc]
    rfl
  · intro ys hys
    unfold FinE
    intro D3 hh3 tk3 F3 N3 o3
    replace o3 := off1_of o3
    rw [hi.length, h3] at hys
    k_steps
    rename Fr h₀ L _ _ => FZ
    rename News h₀ L _ _ => NZ
    have NY := news_hd (T2 := T) NZ (fun q hq => .tail _ hq)
    refine hret _ _ _ _ FZ NY ⟨D3, ys, _, rfl, rfl, fun q hq => o3 q (.tail _ hq), ?_⟩
    rw [show bareL xs = (List.range 3).map fun j => xs.getD j 0 - minL xs from rfl]
    exact hys
end Mine
end
section
open PySem PySem.W PyProof.Rows PySem.Calls
set_option maxRecDepth 100000
namespace Mine


end Mine
end
section
open PySem PySem.W PyProof.Rows PySem.Calls
set_option maxRecDepth 100000
namespace Mine
noncomputable def PartV (V : Int) (x : UInt64) (v : Value) : Prop := (∃ u, v = .float x u) ∨ (∃ u, v = .int V u ∧ x = Float64.ofInt V)
theorem PartV.f {V : Int} {x : UInt64} {u : Tok} : PartV V x (.float x u) := .inl ⟨u, rfl⟩
theorem PartV.i {V : Int} {u : Tok} : PartV V (Float64.ofInt V) (.int V u) := .inr ⟨u, rfl, rfl⟩
noncomputable def hsvIPost (h sg : UInt64) (V : Int) (v : Value) (new : Led) : Prop :=
  ∃ D a b c, v = .ref D ∧ new = [(D, tupObj [a, b, c])] ∧ PartV V (hsvF h sg (Float64.ofInt V)).1 a ∧ PartV V (hsvF h sg (Float64.ofInt V)).2.1 b ∧ PartV V (hsvF h sg (Float64.ofInt V)).2.2 c
theorem hsvIPost_of {h sg : UInt64} {V : Int} {a b c : UInt64} {D : Addr} {x y z : Value} (e : hsvF h sg (Float64.ofInt V) = (a, b, c)) (hx : PartV V a x) (hy : PartV V b y) (hz : PartV V c z) : hsvIPost h sg V (.ref D) [(D, tupObj [x, y, z])] :=
  ⟨D, x, y, z, rfl, rfl, by rw [e]; exact hx, by rw [e]; exact hy, by rw [e]; exact hz⟩
theorem mulif_K {prog : Program} {w : World} {A : Around} {E : Value → Shared → Prop} {s : Shared} {t u : Tok} {n : Int} {a : UInt64} {Q : Value → Shared → Prop} (hn : -1000000000 < n ∧ n < 1000000000) (h : Q (.float (Float64.mul (Float64.ofInt n) a) s.toks) { s with toks := s.toks + 1 }) :
    wpAny (model prog w) A (binaryOp .Mult (.int n t) (.float a u)) Q E s :=
  mul_if_fits (Nat.lt_of_lt_of_le (m := 2 ^ 30) (by omega) (Nat.pow_le_pow_right (by decide) (by decide))) h
theorem addif_K {prog : Program} {w : World} {A : Around} {E : Value → Shared → Prop} {s : Shared} {t u : Tok} {n : Int} {a : UInt64} {Q : Value → Shared → Prop} (hn : -1000000000 < n ∧ n < 1000000000) (h : Q (.float (Float64.add (Float64.ofInt n) a) s.toks) { s with toks := s.toks + 1 }) :
    wpAny (model prog w) A (binaryOp .Add (.int n t) (.float a u)) Q E s :=
  add_if_fits (Nat.lt_of_lt_of_le (m := 2 ^ 30) (by omega) (Nat.pow_le_pow_right (by decide) (by decide))) h
local macro_rules | `(tactic| walk_at "binaryOp Mult int float") => `(tactic| (k_here; refine mulif_K (by assumption) ?_))
set_option maxHeartbeats 8000000 in
theorem hsvI_spec (w : World) (loose mean mg mb) (T : Led) (h sg : UInt64) (V : Int) (t1 t2 t3 : Tok) (hV : -1000000000 < V ∧ V < 1000000000) (hn : Float64.isNaN (Float64.mul h 4618441417868443648) = false) (hi : Float64.isInf (Float64.mul h 4618441417868443648) = false) (hs : (hsvN h).natAbs < 1000000) :
   Spec PySem.Challenge.pw_wf0044_02 w (Mine.hd.heap_39 w.params) topProg loose mean mg mb 5 20 77 [.float h t1, .float sg t2, .int V t3] T (hsvIPost h sg V) := by
  unfold Spec
  intro dp un gd cn cs a ccd cl outer A₀ base h₀ L m s Q E B F X N Tp hk hd hu hret
  refine wpAny_call ?_
  have hk0 : (PySem.Challenge.rw_wf0044_02 = PySem.Challenge.rw_wf0044_02 ∧ Mine.hd.heap_39 = Mine.hd.heap_39) := by (k_fill; exact ⟨rfl, rfl⟩)
  clear hk0
  k_dflt ktr_enter
  k_steps
  · exact hret1 hret (by assumption) (by assumption) (by assumption) (hsvIPost_of (by unfold hsvF; rw [if_pos (by assumption)]) .i .i .i)
  · exact absurd (by assumption) (ov_no hs)
  all_goals have hz : ¬ (Float64.cmp sg 0 == some Ordering.eq) = true := by simp_all
  · exact hret1 hret (by assumption) (by assumption) (by assumption) (hsvIPost_of (by unfold hsvF; rw [if_neg hz, if_pos (by assumption)]; rfl) .i .f .f)
  · exact hret1 hret (by assumption) (by assumption) (by assumption) (hsvIPost_of (by unfold hsvF; rw [if_neg hz, if_neg (by assumption), if_pos (by assumption)]; rfl) .f .i .f)
  · exact hret1 hret (by assumption) (by assumption) (by assumption) (hsvIPost_of (by unfold hsvF; rw [if_neg hz, if_neg (by assumption), if_neg (by assumption), if_pos (by assumption)]; rfl) .f .i .f)
  · exact hret1 hret (by assumption) (by assumption) (by assumption) (hsvIPost_of (by unfold hsvF; rw [if_neg hz, if_neg (by assumption), if_neg (by assumption), if_neg (by assumption), if_pos (by assumption)]; rfl) .f .f .i)
  · exact hret1 hret (by assumption) (by assumption) (by assumption) (hsvIPost_of (by unfold hsvF; rw [if_neg hz, if_neg (by assumption), if_neg (by assumption), if_neg (by assumption), if_neg (by assumption), if_pos (by assumption)]; rfl) .f .f .i)
  · exact hret1 hret (by assumption) (by assumption) (by assumption) (hsvIPost_of (by unfold hsvF; rw [if_neg hz, if_neg (by assumption), if_neg (by assumption), if_neg (by assumption), if_neg (by assumption), if_neg (by assumption)]; rfl) .i .f .f)
  all_goals exact (fmod6 (by assumption) (by assumption) (by assumption) (by assumption) (by assumption) (by assumption)).elim
end Mine
end
section
open PySem PySem.W PyProof.Rows PySem.Calls
open PyProof.Rows.LCg
set_option maxRecDepth 100000
namespace Mine
local macro_rules | `(tactic| k_mem) => `(tactic| first | assumption | (apply List.Mem.tail; k_mem))
local macro_rules | `(tactic| walk_at "call ref") => `(tactic| (k_here; refine Stop.mk ?_))
local macro_rules | `(tactic| walk_at "pyIter ref") => `(tactic| (k_here; refine Stop.mk ?_))
local macro_rules | `(tactic| walk_at "eval ListComp") => `(tactic| (k_here; refine Stop.mk ?_))
local macro_rules | `(tactic| walk_at "CompEnd") => `(tactic| (refine Stop.mk ?_))
local macro_rules | `(tactic| walk_at "subscriptTail") => `(tactic| (k_here; refine Stop.mk ?_))
local macro_rules | `(tactic| walk_at "binaryOp Div int float") => `(tactic| (k_here; refine Stop.mk ?_))
local macro_rules | `(tactic| walk_at "binaryOp Add int float") => `(tactic| (k_here; refine addif_K (by assumption) ?_))
local macro_rules | `(tactic| walk_at "call type:int") => `(tactic| (k_here; (with_reducible show wpAny _ _ (call _ [Value.float _ _]) _ _ _); refine intF_K rfl (by assumption) ?_))
theorem upto_one {s a : Int} (h : 0 ≤ a ∧ a ≤ s) (hs : s ≤ 400) : 0 ≤ a ∧ a < 1048576 := ⟨h.1, by omega⟩
theorem upto_big {s : Int} {x : List Int} (h : Upto s x) (hs : s ≤ 400) : (0 ≤ p0 x ∧ p0 x < 1048576) ∧ (0 ≤ p1 x ∧ p1 x < 1048576) ∧ (0 ≤ p2 x ∧ p2 x < 1048576) ∧ (-1000000000 < max (p0 x) (max (p1 x) (p2 x)) ∧ max (p0 x) (max (p1 x) (p2 x)) < 1000000000) :=
  ⟨upto_one h.2.1 hs, upto_one h.2.2.1 hs, upto_one h.2.2.2 hs, Int.lt_of_lt_of_le (by decide) (Int.le_trans h.2.1.1 (max_ge _ _ _).1), Int.lt_of_le_of_lt (Int.le_trans (turned_max h.2.1.2 h.2.2.1.2 h.2.2.2.2) hs) (by decide)⟩
theorem upto_le {s : Int} {x : List Int} (h : Upto s x) (hs : s ≤ 400) : (0 ≤ p0 x ∧ p0 x ≤ 400) ∧ (0 ≤ p1 x ∧ p1 x ≤ 400) ∧ (0 ≤ p2 x ∧ p2 x ≤ 400) :=
  ⟨⟨h.2.1.1, Int.le_trans h.2.1.2 hs⟩, ⟨h.2.2.1.1, Int.le_trans h.2.2.1.2 hs⟩, ⟨h.2.2.2.1, Int.le_trans h.2.2.2.2 hs⟩⟩
theorem six_small {k : Nat} (hk : k < 6) : -1000000000 < (k : Int) ∧ (k : Int) < 1000000000 := by omega
set_option maxHeartbeats 8000000 in
theorem turned_spec (w : World) (loose mean mg mb) (T : Led) (D : Addr) (k : Nat) (vs : List Value) (xs : List Int) (j : Nat) (s : Int) (t2 : Tok) (hD : (D, listOf vs.toArray k) ∈ T) (hi : IntsAre vs xs) (hx : Upto s xs) (hs4 : s ≤ 400) (hj : j < 6) :
   SpecT PySem.Challenge.pw_wf0044_02 w (Mine.hd.heap_39 w.params) topProg loose mean mg mb 15 80 99 [.ref D, .int (j : Int) t2] T (rowPost (turnedL j xs) T) := by
  unfold SpecT
  intro dp un gd cn cs a ccd cl outer A₀ base h₀ L m s0 Q E B F X N Tp hk hd hu hret
  refine wpAny_call ?_
  have hk0 : (PySem.Challenge.rw_wf0044_02 = PySem.Challenge.rw_wf0044_02 ∧ Mine.hd.heap_39 = Mine.hd.heap_39) := by (k_fill; exact ⟨rfl, rfl⟩)
  clear hk0
  refine Classical.byContradiction fun hG' => ?_
  obtain ⟨hr, hg, hb, hm⟩ := upto_big hx hs4
  obtain ⟨ur, ug, ub⟩ := upto_le hx hs4
  refine hG' ?_
  clear hG'
  have hq := tu_ok ur ug ub hj
  have hj2 := six_small hj
  have h3 := three hx.1
  refine Classical.byContradiction fun hG' => ?_
  obtain ⟨r, hre⟩ : ∃ r, r = p0 xs := ⟨_, rfl⟩
  obtain ⟨g, hge⟩ : ∃ g, g = p1 xs := ⟨_, rfl⟩
  obtain ⟨b, hbe⟩ : ∃ b, b = p2 xs := ⟨_, rfl⟩
  refine hG' ?_
  clear hG'
  have htu : turnedL j xs = [(rotI (max r (max g b) + min r (min g b)) j (r, g, b)).1, (rotI (max r (max g b) + min r (min g b)) j (r, g, b)).2.1, (rotI (max r (max g b) + min r (min g b)) j (r, g, b)).2.2] := by rw [hre, hge, hbe]; rfl
  rw [← hre] at hr hm hq h3
  rw [← hge] at hg hm hq h3
  rw [← hbe] at hb hm hq h3
  clear ur ug ub
  rw [h3] at hi
  clear hre hge hbe h3 hx
  cases hi with | cons _ ta i1 => cases i1 with | cons _ tb i1 => cases i1 with | cons _ tc i1 => cases i1 with | nil =>
  k_dflt ktr_enter
  k_steps
  refine Stop.in ?_
  first | ((with_reducible show wpAny _ _ (subscriptTail _ _ (Value.ref _) (Value.int _ _)) _ _ _); k_dflt (refine' item_lK ?y2k1 ?y2k2 ?y2k3 ?y2k4 ?_ ?y2k5; (case y2k1 => k_asm); (case y2k2 => k_mem); (case y2k3 => decide); (case y2k4 => rfl); (case y2k5 => with_unfolding_all rfl); k_whole)) | fail
  k_steps
  refine Stop.in ?_
  first | ((with_reducible show wpAny _ _ (subscriptTail _ _ (Value.ref _) (Value.int _ _)) _ _ _); k_dflt (refine' item_lK ?y3k1 ?y3k2 ?y3k3 ?y3k4 ?_ ?y3k5; (case y3k1 => k_asm); (case y3k2 => k_mem); (case y3k3 => decide); (case y3k4 => rfl); (case y3k5 => with_unfolding_all rfl); k_whole)) | fail
  k_steps
  refine Stop.in ?_
  first | ((with_reducible show wpAny _ _ (subscriptTail _ _ (Value.ref _) (Value.int _ _)) _ _ _); k_dflt (refine' item_lK ?y4k1 ?y4k2 ?y4k3 ?y4k4 ?_ ?y4k5; (case y4k1 => k_asm); (case y4k2 => k_mem); (case y4k3 => decide); (case y4k4 => rfl); (case y4k5 => with_unfolding_all rfl); k_whole)) | fail
  k_steps
  refine Stop.in ?_
  k_dflt (refine' spec_useQ (rgb_spec w loose mean mg mb T r g b _ _ _ hr hg hb) ?k1 ?k2 ?k3 ?k4 ?k5 ?kK ?kd ?ku ?_; (case k1 => k_asm); (case k2 => k_asm); (case k3 => k_asm); (case k4 => k_asm); (case k5 => k_asm); (case kK => exact rfl))
  case kd => ktr_room
  case ku => ktr_units
  rintro Q' hQ' rv new h4 tk4 F4 N4 l4 ⟨Dt, u1, u2, u3, rfl, rfl⟩
  refine hQ' _ _ _ ?_
  clear hQ' Q'
  dsimp only at F4 N4
  have l4' : ∀ q ∈ T, q.1 < Dt := fun q hq => l4 q hq _ (List.Mem.head _)
  clear l4
  refine Classical.byContradiction fun hG' => ?_
  obtain ⟨q1, q2, q3, q4, q5, q6, q7, q8, q9⟩ := hq
  refine hG' ?_
  clear hG'
  unfold tuH at q1 q2 q3
  k_steps
  refine Stop.in ?_
  k_dflt (refine ListComp_W (by k_asm) (by rfl) (by decide) (by rfl) (by decide) (by rfl) ?_)
  k_steps
  refine Stop.in ?_
  first | (refine divif_K (by assumption) (by decide +kernel) ?_) | fail
  k_steps
  refine Stop.in ?_
  k_dflt (refine' spec_useQ (hsvI_spec w loose mean mg mb _ (Float64.add (rgbH r g b) (Float64.div (Float64.ofInt (j : Int)) 4618441417868443648)) (rgbS r g b) (max r (max g b)) _ _ _ hm q1 q2 q3) ?k1 ?k2 ?k3 ?k4 ?k5 ?kK ?kd ?ku ?_; (case k1 => k_asm); (case k2 => k_asm); (case k3 => k_asm); (case k4 => k_asm); (case k5 => k_asm); (case kK => exact rfl))
  case kd => ktr_room
  case ku => ktr_units
  rintro Q' hQ' rv5 new5 h5 tk5 F5 N5 l5 ⟨Dt5, va, vb, vc, rfl, rfl, pa, pb, pc⟩
  refine hQ' _ _ _ ?_
  clear hQ' Q'
  k_steps
  refine Stop.in ?_
  replace N5 : News _ _ _ ((Dt5, tupObj [va, vb, vc]) :: (Dt, tupObj [.float (rgbH r g b) u1, .float (rgbS r g b) u2, .int (max r (max g b)) u3]) :: T) := N5
  refine blk_tuple rfl (by k_asm) N5 (List.Mem.head _) (by simp) fun gh => ?_
  obtain ⟨tp, htp⟩ : ∃ tp, tp = tuP r g b (j : Int) := ⟨_, rfl⟩
  rw [← htp] at q4 q5 q6 q7 q8 q9
  replace pa : PartV (max r (max g b)) tp.1 va := by rw [htp]; exact pa
  replace pb : PartV (max r (max g b)) tp.2.1 vb := by rw [htp]; exact pb
  replace pc : PartV (max r (max g b)) tp.2.2 vc := by rw [htp]; exact pc
  obtain ⟨x1, x2, x3⟩ := tp
  dsimp only at q4 q5 q6 q7 q8 q9 pa pb pc
  unfold finT at q4 q5 q6
  clear q1 q2 q3
  refine comp_ints (fun j => ([rnd x1, rnd x2, rnd x3] : List Int).getD j 0) ?_ ?_
  · intro j v ys I2 oI C oC D2 m₂ h2 tk2 E' hj hP hC hx2 F6 N6 off6 ne6
    clear htp
    obtain ⟨x, pv, qf, hrx⟩ : ∃ x, PartV (max r (max g b)) x v ∧ finT x ∧ rnd x = ([rnd x1, rnd x2, rnd x3] : List Int).getD j 0 := by
      rcases j with _ | _ | _ | j
      · simp only [List.getElem?_cons_zero, Option.some.injEq] at hP
        subst hP
        exact ⟨x1, pa, q4, rfl⟩
      · simp only [List.getElem?_cons_zero, List.getElem?_cons_succ, Option.some.injEq] at hP
        subst hP
        exact ⟨x2, pb, q5, rfl⟩
      · simp only [List.getElem?_cons_zero, List.getElem?_cons_succ, Option.some.injEq] at hP
        subst hP
        exact ⟨x3, pc, q6, rfl⟩
      · simp only [List.getElem?_cons_succ, List.getElem?_nil, reduceCtorEq] at hP
    clear pa pb pc q4 q5 q6 q7 q8 q9 hP
    unfold finT at qf
    rcases pv with ⟨u, rfl⟩ | ⟨u, rfl, rfl⟩
    all_goals k_steps
    all_goals refine Stop.in ?_
    all_goals exact CompEnd.fin0 (by assumption) (by assumption) off6 (List.Mem.head _) hrx
  · intro ys hys
    replace hys : IntsAre ys (turnedL j xs) := by
      rw [htu, ← q7, ← q8, ← q9]
      exact hys
    unfold FinE
    intro D3 h3 tk3 F3 N3 o3
    replace o3 := off1_of o3
    k_steps
    rename Fr h₀ L _ _ => FZ
    rename News h₀ L _ _ => NZ
    have NY := news_hd (T2 := T) NZ (fun q hq => .tail _ (.tail _ hq))
    exact hret _ _ _ _ FZ NY ⟨D3, ys, _, rfl, rfl, fun q hq => o3 q (.tail _ (.tail _ hq)), hys⟩
end Mine
end
section
open PySem PySem.W PyProof.Rows PySem.Calls
set_option maxRecDepth 100000
namespace Mine
inductive RowsIn (T : Led) : List Value → List (List Int) → Prop
  | nil : RowsIn T [] []
  | cons {v xs vs xss} : isL T v xs → RowsIn T vs xss → RowsIn T (v :: vs) (xs :: xss)
theorem isL.mono {T T' : Led} {v : Value} {xs : List Int} (h : isL T v xs) (k : ∀ p ∈ T, p ∈ T') : isL T' v xs := by
  obtain ⟨d, ws, j, e, hm, hi⟩ := h
  exact ⟨d, ws, j, e, k _ hm, hi⟩
theorem RowsIn.mono {T T' : Led} {vs : List Value} {xss : List (List Int)} (h : RowsIn T vs xss) (k : ∀ p ∈ T, p ∈ T') : RowsIn T' vs xss := by
  induction h with
  | nil => exact .nil
  | cons a _ ih => exact .cons (a.mono k) ih
theorem RowsIn.snoc {T : Led} {vs : List Value} {xss : List (List Int)} {v : Value} {xs : List Int} (h : RowsIn T vs xss) (hv : isL T v xs) : RowsIn T (vs ++ [v]) (xss ++ [xs]) := by
  induction h with
  | nil => exact .cons hv .nil
  | cons a _ ih => exact .cons a ih
theorem RowsIn.length {T : Led} {vs : List Value} {xss : List (List Int)} (h : RowsIn T vs xss) : vs.length = xss.length := by
  induction h with
  | nil => rfl
  | cons a _ ih => rw [List.length_cons, List.length_cons, ih]
theorem RowsIn.at {T : Led} {vs : List Value} {xss : List (List Int)} (h : RowsIn T vs xss) {i : Nat} {v : Value} (hv : vs[i]? = some v) : ∃ xs, xss[i]? = some xs ∧ isL T v xs := by
  induction h generalizing i with
  | nil => cases hv
  | @cons v0 xs0 _ _ a _ ih =>
    cases i with
    | zero =>
      simp only [List.getElem?_cons_zero, Option.some.injEq] at hv
      subst hv
      exact ⟨xs0, rfl, a⟩
    | succ i => exact ih hv
theorem RowsIn.slim {W : Led} {vs : List Value} {rows : List (List Int)} (h : RowsIn W vs rows) : ∃ R, Cl R ∧ (∀ p ∈ R, p ∈ W) ∧ RowsIn R vs rows := by
  induction h with
  | nil => exact ⟨[], Cl.nil, fun _ h => (nomatch h), .nil⟩
  | cons a _ ih =>
    obtain ⟨R, h1, h2, h3⟩ := ih
    obtain ⟨d, ws, k, rfl, hm, hi⟩ := a
    refine ⟨(d, listOf ws.toArray k) :: R, Cl.cons (by simp) h1, fun p hp => ?_, .cons ⟨d, ws, k, rfl, .head _, hi⟩ (h3.mono fun _ h => .tail _ h)⟩
    rcases List.mem_cons.mp hp with rfl | hp
    · exact hm
    · exact h2 p hp
theorem RowsIn.get {W : Led} {vs : List Value} {rows : List (List Int)} (h : RowsIn W vs rows) {i : Nat} (hi : i < rows.length) : ∃ v xs, vs[i]? = some v ∧ rows[i]? = some xs ∧ isL W v xs := by
  have hv : i < vs.length := by rw [h.length]; exact hi
  obtain ⟨xs, h1, h2⟩ := h.at (List.getElem?_eq_getElem hv)
  exact ⟨_, xs, List.getElem?_eq_getElem hv, h1, h2⟩

theorem RowsIn.row {W : Led} {vs : List Value} {rows : List (List Int)} (h : RowsIn W vs rows) {i : Nat} (hi : i < rows.length) : ∃ d ws k, vs[i]? = some (.ref d) ∧ (d, listOf ws.toArray k) ∈ W ∧ IntsAre ws (rows.getD i []) := by
  obtain ⟨v, xs, h1, h2, d, ws, k, rfl, hm, hi2⟩ := h.get hi
  refine ⟨d, ws, k, h1, hm, ?_⟩
  rw [List.getD_eq_getElem?_getD, h2]
  exact hi2
theorem wheelAll_snoc (L : List Nat) (k : Nat) (ring : List (List Int)) : wheelAll (L ++ [k]) ring = wheelL k (wheelAll L ring) := by
  unfold wheelAll
  rw [List.foldl_append]
  rfl
theorem take_snoc {L : List Nat} {i k : Nat} (h : L[i]? = some k) : L.take (i + 1) = L.take i ++ [k] := by
  rw [List.take_add_one, h, Option.toList_some]
theorem wheelAll_upto {L : List Nat} (hL : ∀ k ∈ L, k < 6) {ring : List (List Int)} (h : ∀ i, i < 6 → Upto 9 (ring.getD i [])) : ∀ j, ∀ i, i < 6 → Upto (9 * 2 ^ j) ((wheelAll (L.take j) ring).getD i [])
  | 0, i, hi => by
    rw [List.take_zero]
    exact h i hi
  | j + 1, i, hi => by
    have ih := wheelAll_upto hL h j
    rw [Int.pow_succ, show (9 : Int) * (2 ^ j * 2) = 9 * 2 ^ j + 9 * 2 ^ j by omega]
    cases e : L[j]? with
    | none =>
      rw [List.take_add_one, e, Option.toList_none, List.append_nil]
      obtain ⟨a, b, c, d⟩ := ih i hi
      have : (0 : Int) ≤ 2 ^ j := Int.le_of_lt (Int.pow_pos (by decide))
      exact ⟨a, by omega, by omega, by omega⟩
    | some k =>
      rw [take_snoc e, wheelAll_snoc]
      exact wheel_upto (hL k (List.mem_of_getElem? e)) ih i hi
noncomputable def wheelN (k : Nat) (ring : List (List Int)) (n : Nat) : List (List Int) := (List.range n).map (wheelRow k ring)
theorem wheelN_succ (k : Nat) (ring : List (List Int)) (n : Nat) : wheelN k ring (n + 1) = wheelN k ring n ++ [wheelRow k ring n] := by
  unfold wheelN
  rw [List.range_succ, List.map_append]
  rfl
theorem pow_small {i : Nat} (h : i < 5) : (9 : Int) * 2 ^ i ≤ 400 := by
  have : i = 0 ∨ i = 1 ∨ i = 2 ∨ i = 3 ∨ i = 4 := by omega
  rcases this with rfl | rfl | rfl | rfl | rfl <;> decide
end Mine
end
section
open PySem PySem.W PyProof.Rows PySem.Calls
open PyProof.Rows.LCg
set_option maxRecDepth 100000
namespace Mine
local macro_rules | `(tactic| walk_at "none") => `(tactic| fail)
local macro_rules | `(tactic| k_mem) => `(tactic| first | assumption | (apply List.Mem.tail; k_mem))
local macro_rules | `(tactic| k_all) => `(tactic| first | assumption | (refine allNe_lt (by assumption) ?_; show @LE.le Nat _ _ _; omega))
local macro_rules | `(tactic| walk_at "call ref") => `(tactic| (k_here; refine Stop.mk ?_))
local macro_rules | `(tactic| walk_at "pyIter ref") => `(tactic| (k_here; refine Stop.mk ?_))
local macro_rules | `(tactic| walk_at "exec For Name Name cons nil") => `(tactic| (k_here; refine Stop.mk ?_))
local macro_rules | `(tactic| walk_at "exec For Name Call cons nil") => `(tactic| (k_here; refine Stop.mk ?_))
local macro_rules | `(tactic| walk_at "subscriptTail") => `(tactic| (k_here; refine Stop.mk ?_))
local macro_rules | `(tactic| walk_at "subscriptTail Name Name ref int") => `(tactic| (k_here; refine Stop.mk ?_))
local macro_rules | `(tactic| walk_at "subscriptTail Name BinOp ref int") => `(tactic| (k_here; refine Stop.mk ?_))
local macro_rules | `(tactic| walk_at "call builtin:list.append") => `(tactic| (k_here; refine Stop.mk ?_))
theorem six_rng (i : Nat) : 0 ≤ (0 + (i : Int) * 1 + 1).fmod 6 ∧ (0 + (i : Int) * 1 + 1).fmod 6 < 1000000 := by
  rw [Int.fmod_eq_emod_of_nonneg _ (by decide)]
  omega
theorem turn_rng (i : Nat) (h : i < 6) : 0 ≤ 0 + (i : Int) * 1 ∧ 0 + (i : Int) * 1 < 1000000 := by omega
theorem turn_nat (i : Nat) : (0 + (i : Int) * 1).toNat = i := by omega
inductive rowsPost (rows : List (List Int)) (T : Led) (v : Value) (T' : Led) : Prop
  | mk (D : Addr) (ws : List Value) (k : Nat) (e1 : v = .ref D) (e2 : (D, listOf (List.toArray ws) k) ∈ T') (e3 : RowsIn T' ws rows) (e4 : ∀ p ∈ T, p ∈ T') : rowsPost rows T v T'
set_option maxHeartbeats 8000000 in
theorem wheel_spec (w : World) (loose mean mg mb) (T : Led) (DR DL : Addr) (kr kl : Nat) (rv tv : List Value) (ring : List (List Int)) (L : List Nat) (hR : (DR, listOf rv.toArray kr) ∈ T) (hRows : RowsIn T rv ring) (hLm : (DL, listOf tv.toArray kl) ∈ T) (hLi : IntsAre tv (L.map fun (k : Nat) => (k : Int)))
    (hl : ring.length = 6) (h9 : ∀ i, i < 6 → Upto 9 (ring.getD i [])) (hL6 : ∀ k ∈ L, k < 6) (hLl : L.length = 5) :
   SpecT PySem.Challenge.pw_wf0044_02 w (Mine.hd.heap_39 w.params) topProg loose mean mg mb 30 160 106 [.ref DR, .ref DL] T (rowsPost (wheelAll L ring) T) := by
  unfold SpecT
  intro dp un gd cn cs a ccd cl outer A₀ base h₀ L0 m s0 Q E B F X N Tp hk hd hu hret
  refine wpAny_call ?_
  have hk0 : (PySem.Challenge.rw_wf0044_02 = PySem.Challenge.rw_wf0044_02 ∧ Mine.hd.heap_39 = Mine.hd.heap_39) := by (k_fill; exact ⟨rfl, rfl⟩)
  clear hk0
  have hup := wheelAll_upto hL6 h9
  have htl : tv.length = 5 := by rw [hLi.length, List.length_map, hLl]
  k_dflt ktr_enter
  k_steps
  refine Stop.in ?_
  first | (k_dflt (refine For_J (by k_asm) (by rfl) (by rfl) ?_ (by with_unfolding_all passes_own))) | fail
  k_steps
  refine Stop.in ?_
  (rename News _ _ _ _ => Nn)
  (rename Fr _ _ _ _ => FF)
  refine with_fr FF fun m0 hm0 F0 => ?_
  refine iter_listJ (J := fun i m led => ∃ u Dc rv' rk, m = (fun z => if z = Str.ofString "ring" then some (.ref Dc) else mapD [Str.ofString "ring", Str.ofString "sixths", Str.ofString "later", Str.ofString "place", Str.ofString "ahead"] u m0 z) ∧ (Dc, listOf (List.toArray rv') rk) ∈ led ∧ RowsIn led rv' (wheelAll (L.take i) ring) ∧ (∀ q ∈ T, q ∈ led))
     rfl hLm ?_ (by exact F0) (by exact Nn) ?_ ?_ ?_
  · intro i m led hp'1
    refine Classical.byContradiction fun hG' => ?_
    obtain ⟨u, Dc, rv', rk, rfl, _, _, hW⟩ := hp'1
    refine hG' ?_
    clear hG'
    exact hW _ hLm
  · subst hm0
    exact ⟨_, DR, rv, kr, map_one (by rfl) map_self, hR, hRows, fun _ h => h⟩
  · subst hm0
    intro I i v m1 led h tk it hv hp'1 hoI lI hic FT NT
    refine Classical.byContradiction fun hG' => ?_
    obtain ⟨u, Dc, rv', rk, rfl, hDc, hrows, hW⟩ := hp'1
    obtain ⟨c, tc, rfl, hci⟩ := IntsAre.at hLi i v hv
    refine hG' ?_
    clear hG'
    rw [List.getElem?_map] at hci
    obtain ⟨k, hki, rfl⟩ := Option.map_eq_some_iff.mp hci
    have hk6 := hL6 k (List.mem_of_getElem? hki)
    have hi5 : i < 5 := by rw [← hLl]; exact (List.getElem?_eq_some_iff.mp hki).1
    have hrl : (wheelAll (L.take i) ring).length = 6 := wheelAll_len _ _ hl
    have hui := hup i
    have hp4 := pow_small hi5
    generalize hRi : wheelAll (L.take i) ring = R at *
    have hnx : wheelAll (L.take (i + 1)) ring = wheelL k R := by rw [take_snoc hki, wheelAll_snoc, hRi]
    k_steps
    refine Stop.in ?_
    first | (k_dflt (refine For_J (by k_asm) (by rfl) (by rfl) ?_ (by with_unfolding_all passes_own))) | fail
    k_steps
    refine Stop.in ?_
    (rename News _ _ _ _ => Nn2)
    (rename Fr _ _ _ _ => FF2)
    refine with_fr FF2 fun m2 hm2 F2 => ?_
    refine name1 Nn2 fun Dl hDl => ?_
    subst hDl
    have hne2 : ∀ q ∈ (I, it) :: led, q.1 ≠ Dl := by
      rename I < Dl ∧ AllLt Dl led => lD
      intro q hq
      rcases List.mem_cons.mp hq with rfl | hq
      · exact Nat.ne_of_lt lD.1
      exact allLt_neOf lD.2 q hq
    refine iter_rangeJ (n := 6) (J := fun i' m led' => ∃ u ws' k' Wn, m = mapD [Str.ofString "place", Str.ofString "ahead"] u m2 ∧ led' = (Dl, listOf (List.toArray ws') k') :: (Wn ++ (I, it) :: led) ∧ ws'.length = i' ∧ RowsIn Wn ws' (wheelN k R i') ∧ (∀ p ∈ Wn, p.1 ≠ Dl ∧ p.1 ≠ I))
       rfl (by assumption) (by decide +kernel) (by decide +kernel) F2 Nn2 ?_ ?_ ?_
    · subst hm2
      exact ⟨_, [], 0, [], mapD_self, rfl, rfl, .nil, fun _ h => (nomatch h)⟩
    · subst hm2
      intro I2 i2 t2 m3 led3 h3 tk3 it3 hi3 hp'1 hoI3 _ hic3 FT3 NT3
      refine absQE ?_
      intro Qb Eb hQb
      refine Classical.byContradiction fun hG' => ?_
      obtain ⟨u3, ws3, k3, Wn, rfl, rfl, hw3, hrw3, hnn⟩ := hp'1
      obtain ⟨W3, hW3e⟩ : ∃ W3, W3 = Wn ++ (I, it) :: led := ⟨_, rfl⟩
      refine hG' ?_
      clear hG'
      have hW3 : ∀ q ∈ (I, it) :: led, q ∈ W3 := fun q hq => by rw [hW3e]; exact List.mem_append_right _ hq
      have hne3 : ∀ p ∈ W3, p.1 ≠ Dl := fun p hp => by
        rw [hW3e] at hp
        rcases List.mem_append.mp hp with hp | hp
        · exact (hnn p hp).1
        · exact hne2 p hp
      rw [← hW3e] at hoI3 NT3
      have hw36 : ws3.length < 1000000 := by omega
      refine Classical.byContradiction fun hG' => ?_
      obtain ⟨d1, x1, y1, ex1, mx1, ix1⟩ := hrows.row (i := (i2 + 1) % 6) (by rw [hrl]; exact Nat.mod_lt _ (by decide))
      obtain ⟨d0, x0, y0, ex0, mx0, ix0⟩ := hrows.row (i := i2) (by rw [hrl]; exact hi3)
      refine hG' ?_
      clear hG'
      have u1 := hui ((i2 + 1) % 6) (Nat.mod_lt _ (by decide))
      have u0 := hui i2 hi3
      have n2 : @Ne Nat I2 Dl := Ne.symm (hoI3 (Dl, _) (.head _))
      have eix : (0 + (i2 : Int) * 1 + 1).fmod 6 = (((i2 + 1) % 6 : Nat) : Int) := by rw [Int.fmod_eq_emod_of_nonneg _ (by decide)]; omega
      k_steps
      refine Stop.in ?_
      refine item_lK (by k_asm) (k := rk) (vs := rv') (.tail _ (.tail _ (hW3 _ (.tail _ hDc)))) (six_rng i2) (by rw [eix, Int.toNat_natCast]; exact ex1) ?_
      k_steps
      refine Stop.in ?_
      rename News _ _ _ _ => Nn4
      have mT : (d1, listOf x1.toArray y1) ∈ (I2, it3) :: (Dl, listOf (List.toArray ws3) k3) :: W3 := .tail _ (.tail _ (hW3 _ (.tail _ mx1)))
      k_dflt (refine' specT_useQ (turned_spec w loose mean mg mb _ d1 y1 x1 _ k (9 * 2 ^ i) _ mT ix1 u1 hp4 hk6) ?k1 ?k2 ?k3 ?k4 ?k5 ?kK ?ks ?kd ?ku ?_; (case k1 => k_asm); (case k2 => k_asm); (case k3 => k_asm); (case k4 => k_asm); (case k5 => k_asm); (case kK => exact rfl); (case ks => exact fun _ h => h))
      case kd => ktr_room
      case ku => ktr_units
      rintro Q' hQ' rv5 T5 h5 tk5 F5 N5 ⟨D5, x5, y5, rfl, rfl, o5, ix5⟩
      refine hQ' _ _ _ ?_
      clear hQ' Q'
      clear Nn4
      k_steps
      refine Stop.in ?_
      refine item_lK (by k_asm) (k := rk) (vs := rv') (.tail _ (.tail _ (.tail _ (hW3 _ (.tail _ hDc))))) (turn_rng i2 hi3) (by rw [turn_nat]; exact ex0) ?_
      k_steps
      refine Stop.in ?_
      have mA : (d0, listOf x0.toArray y0) ∈ (D5, listOf (List.toArray x5) y5) :: (I2, it3) :: (Dl, listOf (List.toArray ws3) k3) :: W3 := .tail _ (.tail _ (.tail _ (hW3 _ (.tail _ mx0))))
      rw [three u0.1] at ix0
      rw [three (turned_upto hk6 u1).1] at ix5
      k_dflt (refine' specT_useQ (mixed_spec w loose mean mg mb _ d0 D5 y0 y5 x0 x5 _ _ _ _ _ _ mA (.head _) ix0 ix5) ?k1 ?k2 ?k3 ?k4 ?k5 ?kK ?ks ?kd ?ku ?_; (case k1 => k_asm); (case k2 => k_asm); (case k3 => k_asm); (case k4 => k_asm); (case k5 => k_asm); (case kK => exact rfl); (case ks => exact fun _ h => h))
      case kd => ktr_room
      case ku => ktr_units
      rintro Q' hQ' rv6 T6 h6 tk6 F6 N6 ⟨D6, x6, y6, rfl, rfl, o6, ix6⟩
      refine hQ' _ _ _ ?_
      clear hQ' Q'
      have n6 : @Ne Nat D6 Dl := Ne.symm (o6 (Dl, _) (.tail _ (.tail _ (.head _))))
      have n5 : @Ne Nat D5 Dl := Ne.symm (o5 (Dl, _) (.tail _ (.head _)))
      replace ix6 : IntsAre x6 (wheelRow k R i2) := ix6
      k_steps
      refine Stop.in ?_
      first | ((with_reducible show wpAny _ _ (call (Value.builtin _) [Value.ref _, _]) _ _ _); k_dflt (refine' append_lK ?y1k1 ?y1k2 ?y1k3 ?y1k4 ?_; (case y1k1 => k_asm); (case y1k2 => k_asm); (case y1k3 => k_upd); (case y1k4 => assumption); k_whole); intro h' F' N'; (try k_sweep)) | fail
      k_steps
      rename Fr _ _ _ _ => FZ
      rename News _ _ _ _ => NZ
      refine hQb _ _ ?_
      refine TurnJ.fin FZ NZ ((Dl, listOf (List.toArray (ws3 ++ [Value.ref D6])) (k3 + 1)) :: ((D6, listOf (List.toArray x6) y6) :: Wn ++ (I, it) :: led)) ?_ ?_ ⟨_, _, _, (D6, listOf (List.toArray x6) y6) :: Wn, mapD_of (by repeat (first | exact map_base | refine map_peel (by decide) ?_)), rfl, by rw [List.length_append, hw3]; rfl, ?_, ?_⟩
      · intro q hq
        rw [List.cons_append, ← hW3e] at hq
        simp only [List.mem_cons] at hq ⊢
        rcases hq with hq | hq | hq | hq <;> simp [hq]
      · intro q hq
        rw [List.cons_append, ← hW3e] at hq
        rcases List.mem_cons.mp hq with rfl | hq
        · exact Ne.symm n2
        · rcases List.mem_cons.mp hq with rfl | hq
          · exact Ne.symm (o6 (I2, _) (.tail _ (.head _)))
          · exact hoI3 q (.tail _ hq)
      · rw [wheelN_succ]
        exact (hrw3.mono fun _ h => .tail _ h).snoc ⟨D6, x6, y6, rfl, .head _, ix6⟩
      · intro p hp
        rcases List.mem_cons.mp hp with rfl | hp
        · exact ⟨n6, Ne.symm (o6 (I, it) (.tail _ (.tail _ (.tail _ (hW3 _ (.head _))))))⟩
        · exact hnn p hp
    · subst hm2
      intro m3 led3 h3 tk3 hp'1 FT3 NT3
      refine Classical.byContradiction fun hG' => ?_
      obtain ⟨u3, ws3, k3, Wn, rfl, rfl, hw3, hrw3, hnn⟩ := hp'1
      refine hG' ?_
      clear hG'
      k_steps
      rename Fr _ _ _ _ => FZ
      rename News _ _ _ _ => NZ
      have nI : @Ne Nat Dl I := Ne.symm (hne2 (I, it) (.head _))
      refine TurnJ.fin FZ NZ ((Dl, listOf (List.toArray ws3) k3) :: (Wn ++ led)) ?_ ?_ ⟨_, Dl, ws3, k3, map_one (by rfl) (by repeat (first | exact map_base | refine map_inner (by decide) ?_ | refine map_peel (by decide) ?_)), .head _, ?_, ?_⟩
      · intro q hq
        simp only [List.mem_cons, List.mem_append] at hq ⊢
        rcases hq with hq | hq | hq | hq <;> simp [hq]
      · intro q hq
        rcases List.mem_cons.mp hq with rfl | hq
        · exact nI
        · rcases List.mem_append.mp hq with hq | hq
          · exact (hnn q hq).2
          · exact hoI q hq
      · rw [hnx]
        exact hrw3.mono fun p hp => .tail _ (List.mem_append_left _ hp)
      · exact fun q hq => .tail _ (List.mem_append_right _ (hW q hq))
  · subst hm0
    intro m1 led h tk hp'1 FT NT
    refine Classical.byContradiction fun hG' => ?_
    obtain ⟨u, Dc, rv', rk, rfl, hDc, hrows, hW⟩ := hp'1
    refine hG' ?_
    clear hG'
    k_steps
    rename Fr h₀ L0 _ _ => FZ
    rename News h₀ L0 _ _ => NZ
    refine hret _ _ _ _ FZ NZ ⟨Dc, rv', rk, rfl, hDc, ?_, hW⟩
    rw [htl, ← hLl, List.take_length] at hrows
    exact hrows
end Mine
end
section
open PySem PySem.W PyProof.Rows PySem.Calls
set_option maxRecDepth 100000
namespace Mine
theorem updF_of {P : Addr} {o : Obj} {R : Led} (hR : ∀ p ∈ R, p.1 ≠ P) : ∀ {own : Led}, (∀ p ∈ own, p.1 ≠ P) → UpdF P o (own ++ (P, o) :: R) (fun o' => own ++ (P, o') :: R)
  | [], _ => .head hR
  | p :: own, h => .tail (h p (.head _)) (updF_of hR fun q hq => h q (.tail _ hq))
theorem ne_data {h₀ h : Heap} {L a b : Addr} {o o' : Obj} {T : Led} (N : News h₀ L h T) (m1 : (a, o) ∈ T) (m2 : (b, o') ∈ T) (hd : o.data ≠ o'.data) : @Ne Nat a b := by
  intro e
  have h1 := (N _ m1).1
  have h2 := (N _ m2).1
  have e' : a = b := e
  rw [e'] at h1
  rw [h1] at h2
  exact hd (congrArg Obj.data (Option.some.inj h2))
noncomputable def NoF (T : Led) : Prop := ∀ p ∈ T, ∀ vs, p.2.data ≠ .fields vs
theorem NoF.nil : NoF [] := fun _ h => nomatch h
theorem NoF.cell {a : Addr} {o : Obj} {v : Option Value} {T : Led} (h : o.data = .cell v) (r : NoF T) : NoF ((a, o) :: T) := fun p hp => by
  rcases List.mem_cons.mp hp with rfl | hp
  · intro vs e
    rw [h] at e
    cases e
  · exact r p hp
theorem NoF.list {a : Addr} {vs : Array Value} {k : Nat} {T : Led} (r : NoF T) : NoF ((a, listOf vs k) :: T) := fun p hp => by
  rcases List.mem_cons.mp hp with rfl | hp
  · intro vs e
    cases e
  · exact r p hp
noncomputable def TabAt (P : Addr) (li co : Nat) (q : Str) (R A : Led) : Prop :=
  (A = [(P, tabObj #[])] ∧ ∀ p ∈ R, p.1 ≠ P) ∨ ∃ c0 oc0 vs0 t0, A = [(P, tabObj #[rawInt li, rawInt co, .ref c0]), (c0, oc0)] ∧ oc0.data = .fields vs0 ∧ vs0[1]? = some (.str q t0)
section
variable {M : Model} {A : Around} {E : Value → Shared → Prop} {s : Shared} {h₀ : Heap} {L a c P : Addr} {m mg mb : Str → Option Value} {cn : Str} {cs : Scope} {ccd : Value} {cl : List (Str × Addr)}
  {p : Program} {loose : List Str} {mean : ExcName → Option Value} {name qual : Str} {params : Arguments} {body : List Stmt} {scope : Scope} {pos : Pos} {firstLine : Nat} {clos : List (Str × Addr)}
theorem nest_any {Q : Value → Shared → Prop} {own Tb R news : Led} {li co : Nat} (F : Fr h₀ L s.heap m) (N : News h₀ L s.heap news) (hnews : news = own ++ (Tb ++ R)) (T : Top p loose mean mg mb h₀) (C : CodeHd h₀ c P) (hcd : ccd = .ref c)
    (hA : TabAt P li co qual R Tb) (ho : Cl own) (hf : NoF own) (hli : rawInt pos.line = rawInt li) (hco : rawInt pos.col = rawInt co) (ht : ∀ c0, TriplesOk [rawInt li, rawInt co, .ref c0]) (hn : ∀ c0, codeAmong pos [rawInt li, rawInt co, .ref c0] = some (.ref c0))
    (hcl : closureFor scope (envX cn cs L a ccd cl) = pure clos)
    (h : ∀ f c' oc vs t ctv doc h' tk, Fr h₀ L h' m →
      News h₀ L h' ((f, fnMade name qual params body scope clos doc ((mg "__name__").getD .none) c' ctv) :: (c', oc) :: (own ++ ((P, tabObj #[rawInt li, rawInt co, .ref c']) :: R))) →
      oc.data = .fields vs → vs[1]? = some (.str qual t) → (∀ q ∈ news, q.1 < f) → (∀ q ∈ own, @Ne Nat c' q.1) → Q (.ref f) { s with heap := h', toks := tk }) :
    wpAny M A (makeFunction name qual params (.stmts body) scope (envX cn cs L a ccd cl) [] [] [] pos firstLine) Q E s := by
  subst hnews
  rcases hA with ⟨rfl, hR⟩ | ⟨c0, oc0, vs0, t0, rfl, hd, hv⟩
  · have ho' : ∀ p ∈ own, p.1 ≠ P := Cl.apart (ps := #[]) (R := own) (fun p hp => N p (by
      rcases List.mem_cons.mp hp with rfl | hp
      · exact List.mem_append_right _ (.head _)
      · exact List.mem_append_left _ hp)) ho
    refine nest_K (ps := #[]) F N T C hcd (updF_of hR ho') trivial rfl hcl fun f c' oc vs t ctv doc h' tk F' N' d1 d2 l1 l2 => ?_
    rw [hli, hco] at N'
    exact h f c' oc vs t ctv doc h' tk F' N' d1 d2 (fun q hq => Nat.lt_trans (l1 q hq) l2) fun q hq => Nat.ne_of_gt (l1 q (List.mem_append_left _ hq))
  · refine nestHit_K (ps := #[rawInt li, rawInt co, .ref c0]) F N T C hcd (List.mem_append_right _ (.head _)) (ht c0) (hn c0) hcl fun f ctv doc h' tk F' N' l1 => ?_
    refine h f c0 oc0 vs0 t0 ctv doc h' tk F' (fun p hp => N' p ?_) hd hv l1 fun q hq => ne_data N (List.mem_append_right _ (.tail _ (.head _))) (List.mem_append_left _ hq) fun e => hf q hq vs0 (e.symm.trans hd)
    simp only [List.mem_cons, List.mem_append, List.cons_append, List.nil_append] at hp ⊢
    rcases hp with hp | hp | hp | hp | hp <;> simp [hp]
end
theorem tabAt_in {P : Addr} {li co : Nat} {q : Str} {T R : Led} (hT : (T = (P, tabObj #[]) :: R ∧ ∀ p ∈ R, p.1 ≠ P) ∨ ∃ c0 oc0 vs0 t0, T = (P, tabObj #[rawInt li, rawInt co, .ref c0]) :: (c0, oc0) :: R ∧ oc0.data = .fields vs0 ∧ vs0[1]? = some (.str q t0)) : ∃ A, TabAt P li co q R A ∧ T = A ++ R := by
  rcases hT with ⟨rfl, h⟩ | ⟨c0, oc0, vs0, t0, rfl, h1, h2⟩
  · exact ⟨_, .inl ⟨rfl, h⟩, rfl⟩
  · exact ⟨_, .inr ⟨c0, oc0, vs0, t0, rfl, h1, h2⟩, rfl⟩
theorem TabAt.mem {P : Addr} {li co : Nat} {q : Str} {R A : Led} (h : TabAt P li co q R A) : ∃ o, (P, o) ∈ A := by
  rcases h with ⟨rfl, _⟩ | ⟨c0, oc0, vs0, t0, rfl, _⟩
  · exact ⟨_, .head _⟩
  · exact ⟨_, .head _⟩
end Mine
end
section
open PySem PySem.W PyProof.Rows PySem.Calls
set_option maxRecDepth 100000
namespace Mine
local macro_rules | `(tactic| k_mem) => `(tactic| assumption)
local macro_rules | `(tactic| k_all) => `(tactic| first | assumption | (refine allNe_lt (by assumption) ?_; show @LE.le Nat _ _ _; omega))
local macro_rules | `(tactic| walk_at "call ref") => `(tactic| (k_here; refine Stop.mk ?_))
local macro_rules | `(tactic| walk_at "truthy ref") => `(tactic| (k_here; refine Stop.mk ?_))
local macro_rules | `(tactic| walk_at "call builtin:len") => `(tactic| (k_here; refine Stop.mk ?_))
local macro_rules | `(tactic| walk_at "binaryOp RShift int int") => `(tactic| (k_here; (with_reducible refine rshift1_K ?_)))
local macro_rules | `(tactic| walk_at "binaryOp Mult int int") => `(tactic| (k_here; refine Stop.mk ?_))
local macro_rules | `(tactic| walk_at "binaryOp LShift int int") => `(tactic| (k_here; refine Stop.mk ?_))
local macro_rules | `(tactic| walk_at "exec FunctionDef") => `(tactic| (k_here; refine Stop.mk ?_))
set_option exponentiation.threshold 6000 in
set_option maxHeartbeats 8000000 in
theorem d2i_in (w : World) (loose mean mg mb) (T R : Led) (hT : (T = (44, tabObj #[]) :: R ∧ ∀ p ∈ R, p.1 ≠ 44) ∨ ∃ c0 oc0 vs0 t0, T = (44, tabObj #[rawInt 54, rawInt 4, .ref c0]) :: (c0, oc0) :: R ∧ oc0.data = .fields vs0 ∧ vs0[1]? = some (.str (Str.ofString "_digits2int.<locals>.inner") t0)) (l : Addr) (vs : List Value) (ds : List Int) (k : Nat) (n : Int) (t2 : Tok) (hl : (l, listOf vs.toArray k) ∈ R) (hi : IntsAre vs ds) (hlen : 0 < ds.length ∧ ds.length < 200) (hn : 0 < n ∧ n < 5000) (hdig : ∀ d ∈ ds, d.natAbs < 2 ^ 5000)
   :
   SpecT PySem.Challenge.pw_wf0044_02 w (Mine.hd.heap_39 w.params) topProg loose mean mg mb (ds.length + 10) (8 * ds.length + 80) 49 [.ref l, .int n t2] T (fun v T' => ∃ t A', v = .int (dnum n.toNat ds) t ∧ T' = A' ++ R ∧ TabOk 44 54 4 (Str.ofString "_digits2int.<locals>.inner") A') := by
  have hvl := hi.length
  unfold SpecT
  intro dp un gd cn cs a ccd cl outer A₀ base h₀ L m s Q E B F X N Tp hk hd hu hret
  refine wpAny_call ?_
  have hk0 : (PySem.Challenge.rw_wf0044_02 = PySem.Challenge.rw_wf0044_02 ∧ Mine.hd.heap_39 = Mine.hd.heap_39) := by (k_fill; exact ⟨rfl, rfl⟩)
  clear hk0
  obtain ⟨Tb, hTb, rfl⟩ := tabAt_in hT
  clear hT
  k_dflt (refine' code_defC ?k1 ?k2 ?k3 ?k4 ?k5 ?kA ?kF ?kK ?k6 ?k7 ?k8 ?k9 ?kB ?kD ?_ ?c2 ?c3 ?c4; (case kA => exact rfl); (case kF => exact rfl); (case kK => assumption); (case k1 => k_asm); (case k2 => k_asm); (case k3 => k_asm); (case k4 => k_asm); (case k5 => k_asm); (case k6 => k_is); (case k7 => k_is); (case k8 => ktr_room); (case k9 => exact BindsTo.of_eq rfl); (case kB => exact rfl); (case kD => decide +kernel); (case c2 => exact rfl); (case c3 => exact rfl); (case c4 => exact rfl); k_whole; intro g' L' h' tk' cells' FG' F' N' Y' B' X' T' l1; (try k_lt l1); k_cells Y'; (try simp only [List.cons_append, List.nil_append] at N'); (try dsimp only); (try k_lift B'); (try k_fold))
  have lR : AllLt L' R := allLt_of fun p hp => l1 p (List.mem_append_right _ hp)
  have l51 : @LT.lt Nat _ 44 L' := by
    obtain ⟨o, ho⟩ := hTb.mem
    exact l1 _ (List.mem_append_left _ ho)
  clear l1
  have C : CodeHd g' 48 44 := codeHd_of_K X' (by kernel_rfl)
  k_steps
  refine Stop.in ?_
  k_dflt (refine' nestDef_K ?zqd0 ?zqk0 ?zqa0 ?_; (case zqd0 => exact rfl); (case zqk0 => exact rfl); (case zqa0 => exact rfl)); k_dflt (refine' nest_any (own := [_, _, _]) (li := 54) (co := 4) ?zqF ?zqN ?zqhn ?zqT ?zqC ?zqcd ?zqA ?zqo ?zqnf ?zqli ?zqco ?zqt ?zqn ?zqcl ?_; (case zqF => k_asm); (case zqN => k_asm); (case zqhn => rfl); (case zqT => k_asm); (case zqcd => exact rfl); (case zqC => kn_code); (case zqA => assumption); (case zqo => exact Cl.cell (by assumption) (Cl.cell (by assumption) (Cl.cell (by assumption) Cl.nil))); (case zqnf => exact NoF.cell (by assumption) (NoF.cell (by assumption) (NoF.cell (by assumption) NoF.nil))); (case zqli => rfl); (case zqco => rfl); (case zqt => intro _; kn_triples); (case zqn => intro _; kn_hit); (case zqcl => exact rfl); k_whole); intro f' c' oc' vs' t' ct' dc' h' tk' F' N' d1' d2' l1 l2; (try dsimp only [List.cons_append, List.nil_append] at N'); (try k_lt l1); have n1 := l2 _ (.head _); have n2 := l2 _ (.tail _ (.head _)); have n3 := l2 _ (.tail _ (.tail _ (.head _))); clear l2; dsimp only at n1 n2 n3
  k_steps
  refine Stop.in ?_
  k_dflt (refine' truthy_lK ?zrk1 ?zrk2 ?zrk3 ?_; (case zrk1 => k_asm); (case zrk2 => k_mem)); (case zrk3 => (show _; omega)); k_whole
  k_steps
  refine Stop.in ?_
  (with_reducible show wpAny _ _ (call (Value.builtin "len") [Value.ref _]) _ _ _); k_dflt (refine' len_lK ?zrk1 ?zrk2 ?zrk3 ?_; (case zrk1 => k_asm); (case zrk2 => k_mem)); (case zrk3 => (show _; omega)); k_whole; intro _
  k_steps
  refine Stop.in ?_
  (rename News _ _ _ _ => Nn)
  refine with_call fun f hff => ?_
  subst hff
  refine with_ledger Nn fun Bl hBl NB => ?_
  have inner : ∀ (sz lo hi : Nat) (ta tb : Tok) (T2 : Led), hi - lo ≤ sz → lo < hi → hi ≤ ds.length → (∀ q ∈ Bl, q ∈ T2) →
      Spec PySem.Challenge.pw_wf0044_02 w (Mine.hd.heap_39 w.params) topProg loose mean mg mb (hi - lo + 3) (8 * (hi - lo) + 40) f [.int lo ta, .int hi tb] T2
        (fun v new => ∃ t, v = .int (dnum n.toNat (seg ds lo hi)) t ∧ new = []) := by
    intro sz
    induction sz with
    | zero => intro lo hi ta tb T2 h1 h2; omega
    | succ sz ih =>
      intro lo hi ta tb T2 h1 h2 h3 hsub
      have hm0 := hsub (_, _) (by rw [hBl]; exact List.Mem.head _)
      have hm1 := hsub (_, _) (by rw [hBl]; exact List.Mem.tail _ (List.Mem.head _))
      have hm2 := hsub (_, _) (by rw [hBl]; exact List.Mem.tail _ (List.Mem.tail _ (List.Mem.head _)))
      have hm3 := hsub (_, _) (by rw [hBl]; exact List.Mem.tail _ (List.Mem.tail _ (List.Mem.tail _ (List.Mem.head _))))
      have hm4 := hsub (_, _) (by rw [hBl]; exact List.Mem.tail _ (List.Mem.tail _ (List.Mem.tail _ (List.Mem.tail _ (List.Mem.head _)))))
      have hm5 := hsub (_, _) (by rw [hBl]; exact List.Mem.tail _ (List.Mem.tail _ (List.Mem.tail _ (List.Mem.tail _ (List.Mem.tail _ (List.Mem.head _))))))
      have hml := hsub _ (by rw [hBl]; exact List.Mem.tail _ (List.Mem.tail _ (List.Mem.tail _ (List.Mem.tail _ (List.Mem.tail _ (List.Mem.tail _ (hl)))))))
      unfold Spec
      intro dp2 un2 gd2 cn2 cs2 a2 ccd2 cl2 outer2 A2 base2 h20 L2 m2 s2 Q2 E2 B2 F2 X2 N2 Tp2 hk2 hd2 hu2 hret2
      refine wpAny_call ?_
      k_dflt (refine' code_nest ?k1 ?k2 ?k3 ?k4 ?k5 ?kA ?kF ?kK ?k6 ?k7 ?k8 ?k9 ?kB ?_ ?c2 ?c3 ?c4 ?c5; (case kA => exact rfl); (case kF => exact rfl); (case kK => assumption); (case k1 => k_asm); (case k2 => k_asm); (case k3 => k_asm); (case k4 => k_asm); (case k5 => k_asm); (case k6 => k_mem); (case k7 => exact codeRec_news (by k_asm) (by k_mem) (by assumption) (by assumption)); (case k8 => ktr_room); (case k9 => exact BindsTo.of_eq rfl); (case c5 => decide); (case kB => exact locs rfl); (case c2 => exact rfl); (case c3 => exact rfl); (case c4 => exact rfl); k_whole; intro g3 L3 h3 FG3 F3 N3 B3 X3 T3; (try dsimp only); (try k_lift B3); (try k_fold))
      have hmid : ((lo : Int) + hi) / 2 = (((lo + hi) / 2 : Nat) : Int) := by omega
      obtain ⟨mid, hmd⟩ : ∃ mid, mid = (lo + hi) / 2 := ⟨_, rfl⟩
      rw [← hmd] at hmid
      k_steps
      · have e : hi = lo + 1 := by omega
        subst e
        exact hret0 hret2 (by assumption) (by assumption) ⟨_, congrArg (fun z => Value.int z _) (dnum_one n.toNat (by omega)).symm, rfl⟩
      · refine Stop.in ?_
        refine mul_K (small_int (by omega)) (small_int (by omega)) ?_
        k_steps
        refine Stop.in ?_
        rw [hmid]
        k_dflt (refine' spec_useQ (ih mid hi _ _ T2 (by omega) (by omega) (by omega) hsub) ?k1 ?k2 ?k3 ?k4 ?k5 ?kK ?kd ?ku ?_; (case k1 => k_asm); (case k2 => k_asm); (case k3 => k_asm); (case k4 => k_asm); (case k5 => k_asm); (case kK => exact rfl))
        case kd => ktr_room
        case ku => ktr_units
        rintro Q' hQ' r new h4 tk4 F4 N4 _ ⟨t4, rfl, rfl⟩
        refine hQ' _ _ _ ?_
        clear hQ' Q'
        have hS : Small (dnum n.toNat (seg ds mid hi)) := dnum_seg_small (by omega) hlen.2 hdig
        have hsh : 0 ≤ (((lo : Int) + hi) / 2 - lo) * n ∧ (((lo : Int) + hi) / 2 - lo) * n ≤ 10000000 := shift_rng ⟨by omega, by omega⟩ hn
        replace N4 : News g3 L3 h4 T2 := N4
        k_steps
        refine Stop.in ?_
        refine lshift_K (by assumption) (by assumption) ?_
        k_steps
        refine Stop.in ?_
        rw [hmid]
        k_dflt (refine' spec_useQ (ih lo mid _ _ T2 (by omega) (by omega) (by omega) hsub) ?k1 ?k2 ?k3 ?k4 ?k5 ?kK ?kd ?ku ?_; (case k1 => k_asm); (case k2 => k_asm); (case k3 => k_asm); (case k4 => k_asm); (case k5 => k_asm); (case kK => exact rfl))
        case kd => ktr_room
        case ku => ktr_units
        rintro Q' hQ' r new h5 tk5 F5 N5 _ ⟨t5, rfl, rfl⟩
        refine hQ' _ _ _ ?_
        clear hQ' Q'
        replace N5 : News g3 L3 h5 T2 := N5
        k_steps
        exact hret0 hret2 (by assumption) (by assumption) ⟨_, congrArg (fun z => Value.int z _) (dnum_join (by omega) (by omega) (by omega) (by assumption) rfl), rfl⟩
  rw [hvl]
  have inn := fun ta tb => inner ds.length 0 ds.length ta tb Bl (Nat.le_refl _) hlen.1 (Nat.le_refl _) (fun _ h => h)
  simp only [show ((0 : Nat) : Int) = 0 from rfl] at inn
  k_dflt (refine' spec_useQ (inn _ _) ?k1 ?k2 ?k3 ?k4 ?k5 ?kK ?kd ?ku ?_; (case k1 => k_asm); (case k2 => k_asm); (case k3 => k_asm); (case k4 => k_asm); (case k5 => k_asm); (case kK => exact rfl))
  case kd => ktr_room
  case ku => ktr_units
  rintro Q' hQ' r new h5 tk5 F5 N5 _ ⟨t5, rfl, rfl⟩
  refine hQ' _ _ _ ?_
  clear hQ' Q'
  replace N5 : News g' L' h5 Bl := N5
  rw [hBl] at N5
  k_steps
  rename News h₀ L _ _ => NZ
  rename Fr h₀ L _ _ => FZ
  try simp only [Array.empty_append] at NZ
  obtain ⟨A', NA, hA⟩ := tab_exit (P := 44) (li := 54) (co := 4) (q := Str.ofString "_digits2int.<locals>.inner") (R := R) NZ (by repeat (first | exact List.Mem.head _ | apply List.Mem.tail)) (by repeat (first | exact List.Mem.head _ | apply List.Mem.tail)) (fun p hp => by repeat (first | exact hp | apply List.Mem.tail)) (by assumption) (by assumption)
  exact hret _ _ _ _ FZ NA ⟨_, _, by rw [seg_all], rfl, hA⟩
set_option exponentiation.threshold 6000 in
set_option maxHeartbeats 8000000 in
theorem d2i_in0 (w : World) (loose mean mg mb) (T R : Led) (hT : (T = (44, tabObj #[]) :: R ∧ ∀ p ∈ R, p.1 ≠ 44) ∨ ∃ c0 oc0 vs0 t0, T = (44, tabObj #[rawInt 54, rawInt 4, .ref c0]) :: (c0, oc0) :: R ∧ oc0.data = .fields vs0 ∧ vs0[1]? = some (.str (Str.ofString "_digits2int.<locals>.inner") t0)) (l : Addr) (vs : List Value) (k : Nat) (n : Int) (t2 : Tok) (hl : (l, listOf vs.toArray k) ∈ R) (hi : vs = []) (hn : 0 < n ∧ n < 5000)
   :
   SpecT PySem.Challenge.pw_wf0044_02 w (Mine.hd.heap_39 w.params) topProg loose mean mg mb 10 80 49 [.ref l, .int n t2] T (fun v T' => ∃ t A', v = .int 0 t ∧ T' = A' ++ R ∧ TabOk 44 54 4 (Str.ofString "_digits2int.<locals>.inner") A') := by
  have hvl : vs.length = 0 := by rw [hi]; rfl
  unfold SpecT
  intro dp un gd cn cs a ccd cl outer A₀ base h₀ L m s Q E B F X N Tp hk hd hu hret
  refine wpAny_call ?_
  have hk0 : (PySem.Challenge.rw_wf0044_02 = PySem.Challenge.rw_wf0044_02 ∧ Mine.hd.heap_39 = Mine.hd.heap_39) := by (k_fill; exact ⟨rfl, rfl⟩)
  clear hk0
  obtain ⟨Tb, hTb, rfl⟩ := tabAt_in hT
  clear hT
  k_dflt (refine' code_defC ?k1 ?k2 ?k3 ?k4 ?k5 ?kA ?kF ?kK ?k6 ?k7 ?k8 ?k9 ?kB ?kD ?_ ?c2 ?c3 ?c4; (case kA => exact rfl); (case kF => exact rfl); (case kK => assumption); (case k1 => k_asm); (case k2 => k_asm); (case k3 => k_asm); (case k4 => k_asm); (case k5 => k_asm); (case k6 => k_is); (case k7 => k_is); (case k8 => ktr_room); (case k9 => exact BindsTo.of_eq rfl); (case kB => exact rfl); (case kD => decide +kernel); (case c2 => exact rfl); (case c3 => exact rfl); (case c4 => exact rfl); k_whole; intro g' L' h' tk' cells' FG' F' N' Y' B' X' T' l1; (try k_lt l1); k_cells Y'; (try simp only [List.cons_append, List.nil_append] at N'); (try dsimp only); (try k_lift B'); (try k_fold))
  have lR : AllLt L' R := allLt_of fun p hp => l1 p (List.mem_append_right _ hp)
  have l51 : @LT.lt Nat _ 44 L' := by
    obtain ⟨o, ho⟩ := hTb.mem
    exact l1 _ (List.mem_append_left _ ho)
  clear l1
  have C : CodeHd g' 48 44 := codeHd_of_K X' (by kernel_rfl)
  k_steps
  refine Stop.in ?_
  k_dflt (refine' nestDef_K ?zqd0 ?zqk0 ?zqa0 ?_; (case zqd0 => exact rfl); (case zqk0 => exact rfl); (case zqa0 => exact rfl)); k_dflt (refine' nest_any (own := [_, _, _]) (li := 54) (co := 4) ?zqF ?zqN ?zqhn ?zqT ?zqC ?zqcd ?zqA ?zqo ?zqnf ?zqli ?zqco ?zqt ?zqn ?zqcl ?_; (case zqF => k_asm); (case zqN => k_asm); (case zqhn => rfl); (case zqT => k_asm); (case zqcd => exact rfl); (case zqC => kn_code); (case zqA => assumption); (case zqo => exact Cl.cell (by assumption) (Cl.cell (by assumption) (Cl.cell (by assumption) Cl.nil))); (case zqnf => exact NoF.cell (by assumption) (NoF.cell (by assumption) (NoF.cell (by assumption) NoF.nil))); (case zqli => rfl); (case zqco => rfl); (case zqt => intro _; kn_triples); (case zqn => intro _; kn_hit); (case zqcl => exact rfl); k_whole); intro f' c' oc' vs' t' ct' dc' h' tk' F' N' d1' d2' l1 l2; (try dsimp only [List.cons_append, List.nil_append] at N'); (try k_lt l1); have n1 := l2 _ (.head _); have n2 := l2 _ (.tail _ (.head _)); have n3 := l2 _ (.tail _ (.tail _ (.head _))); clear l2; dsimp only at n1 n2 n3
  k_steps
  refine Stop.in ?_
  k_dflt (refine' truthy_lK ?zrk1 ?zrk2 ?zrk3 ?_; (case zrk1 => k_asm); (case zrk2 => k_mem)); (case zrk3 => (show _; omega)); k_whole
  k_steps
  rename News h₀ L _ _ => NZ
  rename Fr h₀ L _ _ => FZ
  try simp only [Array.empty_append] at NZ
  obtain ⟨A', NA, hA⟩ := tab_exit (P := 44) (li := 54) (co := 4) (q := Str.ofString "_digits2int.<locals>.inner") (R := R) NZ (by repeat (first | exact List.Mem.head _ | apply List.Mem.tail)) (by repeat (first | exact List.Mem.head _ | apply List.Mem.tail)) (fun p hp => by repeat (first | exact hp | apply List.Mem.tail)) (by assumption) (by assumption)
  exact hret _ _ _ _ FZ NA ⟨_, _, rfl, rfl, hA⟩
theorem d2i_spec (w : World) (loose mean mg mb) (R Tb : Led) (hT : Tabs 44 37 Tb) (hC : Cl R) (l : Addr) (vs : List Value) (ds : List Int) (k : Nat) (n : Int) (t2 : Tok) (hl : (l, listOf vs.toArray k) ∈ R) (hi : IntsAre vs ds) (hlen : ds.length < 200) (hn : 0 < n ∧ n < 5000) (hdig : ∀ d ∈ ds, d.natAbs < 2 ^ 5000) :
   SpecT PySem.Challenge.pw_wf0044_02 w (Mine.hd.heap_39 w.params) topProg loose mean mg mb 250 2000 49 [.ref l, .int n t2] (R ++ Tb) (fun v T' => (∃ t, v = .int (dnum n.toNat ds) t) ∧ ∃ Tb', T' = R ++ Tb' ∧ Tabs 44 37 Tb') := by
  refine SpecT.tabA hT hC (by decide) fun T R₀ hR h => ?_
  by_cases h0 : 0 < ds.length
  · refine ((d2i_in w loose mean mg mb T R₀ h l vs ds k n t2 (hR _ hl) hi ⟨h0, hlen⟩ hn hdig).room (by omega) (by omega)).post ?_
    intro v T' hp'1
    refine Classical.byContradiction fun hG' => ?_
    obtain ⟨t, A', h1, h2, h3⟩ := hp'1
    refine hG' ?_
    clear hG'
    exact ⟨⟨t, h1⟩, A', h2, h3⟩
  · have e0 : ds = [] := List.length_eq_zero_iff.mp (by omega)
    subst e0
    have e1 : vs = [] := List.length_eq_zero_iff.mp hi.length
    refine ((d2i_in0 w loose mean mg mb T R₀ h l vs k n t2 (hR _ hl) e1 hn).room (by omega) (by omega)).post ?_
    intro v T' hp'1
    refine Classical.byContradiction fun hG' => ?_
    obtain ⟨t, A', h1, h2, h3⟩ := hp'1
    refine hG' ?_
    clear hG'
    exact ⟨⟨t, h1⟩, A', h2, h3⟩
end Mine
end
section
open PySem PySem.W PyProof.Rows PySem.Calls
set_option maxRecDepth 100000
namespace Mine
local macro_rules | `(tactic| k_mem) => `(tactic| first | assumption | exact List.Mem.tail _ (by assumption))
local macro_rules | `(tactic| k_all) => `(tactic| first | assumption | (refine allNe_lt (by assumption) ?_; show @LE.le Nat _ _ _; omega))
local macro_rules | `(tactic| walk_at "call ref") => `(tactic| (k_here; refine Stop.mk ?_))
local macro_rules | `(tactic| walk_at "call builtin:len") => `(tactic| (k_here; refine Stop.mk ?_))
local macro_rules | `(tactic| walk_at "binaryOp RShift int int") => `(tactic| (k_here; refine Stop.mk ?_))
local macro_rules | `(tactic| walk_at "binaryOp Mult ref int") => `(tactic| (k_here; refine Stop.mk ?_))
local macro_rules | `(tactic| walk_at "setItem ref int") => `(tactic| (k_here; refine Stop.mk ?_))
local macro_rules | `(tactic| walk_at "binaryOp Mult int int") => `(tactic| (k_here; refine Stop.mk ?_))
local macro_rules | `(tactic| walk_at "binaryOp LShift int int") => `(tactic| (k_here; refine Stop.mk ?_))
local macro_rules | `(tactic| walk_at "exec FunctionDef") => `(tactic| (k_here; refine Stop.mk ?_))
set_option exponentiation.threshold 6000 in
set_option maxHeartbeats 8000000 in
theorem i2d_in (w : World) (loose mean mg mb) (T R : Led) (hT : (T = (37, tabObj #[]) :: R ∧ ∀ p ∈ R, p.1 ≠ 37) ∨ ∃ c0 oc0 vs0 t0, T = (37, tabObj #[rawInt 39, rawInt 4, .ref c0]) :: (c0, oc0) :: R ∧ oc0.data = .fields vs0 ∧ vs0[1]? = some (.str (Str.ofString "_int2digits.<locals>.inner") t0)) (n a0 : Int) (t1 t2 : Tok) (hn : 0 < n ∧ n < 5000) (ha : 0 ≤ a0) (hkf : figs n.toNat a0 < 200)
   :
   SpecT PySem.Challenge.pw_wf0044_02 w (Mine.hd.heap_39 w.params) topProg loose mean mg mb 250 2000 42 [.int a0 t1, .int n t2] T (fun v T' => ∃ D vs A', v = .ref D ∧ IntsAre vs (digs n.toNat (figs n.toNat a0) a0) ∧ T' = A' ++ ((D, listOf vs.toArray 0) :: R) ∧ TabOk 37 39 4 (Str.ofString "_int2digits.<locals>.inner") A' ∧ ∀ q ∈ R, q.1 < D) := by
  have hfd := figs_fdiv (a := a0) hn.1
  have hk9 : 0 ≤ ((Builtin.Int.intBits a0 : Int) + n - 1).fdiv n ∧ ((Builtin.Int.intBits a0 : Int) + n - 1).fdiv n < 1000000 := by omega
  unfold SpecT
  intro dp un gd cn cs a ccd cl outer A₀ base h₀ L m s Q E B F X N Tp hk hd hu hret
  refine wpAny_call ?_
  have hk0 : (PySem.Challenge.rw_wf0044_02 = PySem.Challenge.rw_wf0044_02 ∧ Mine.hd.heap_39 = Mine.hd.heap_39) := by (k_fill; exact ⟨rfl, rfl⟩)
  clear hk0
  obtain ⟨Tb, hTb, rfl⟩ := tabAt_in hT
  clear hT
  k_dflt (refine' code_defC ?k1 ?k2 ?k3 ?k4 ?k5 ?kA ?kF ?kK ?k6 ?k7 ?k8 ?k9 ?kB ?kD ?_ ?c2 ?c3 ?c4; (case kA => exact rfl); (case kF => exact rfl); (case kK => assumption); (case k1 => k_asm); (case k2 => k_asm); (case k3 => k_asm); (case k4 => k_asm); (case k5 => k_asm); (case k6 => k_is); (case k7 => k_is); (case k8 => ktr_room); (case k9 => exact BindsTo.of_eq rfl); (case kB => exact rfl); (case kD => decide +kernel); (case c2 => exact rfl); (case c3 => exact rfl); (case c4 => exact rfl); k_whole; intro g' L' h' tk' cells' FG' F' N' Y' B' X' T' l1; (try k_lt l1); k_cells Y'; (try simp only [List.cons_append, List.nil_append] at N'); (try dsimp only); (try k_lift B'); (try k_fold))
  have lR : AllLt L' R := allLt_of fun p hp => l1 p (List.mem_append_right _ hp)
  have l44 : @LT.lt Nat _ 37 L' := by
    obtain ⟨o, ho⟩ := hTb.mem
    exact l1 _ (List.mem_append_left _ ho)
  have lTR : AllLt L' (Tb ++ R) := allLt_of l1
  clear l1
  have C : CodeHd g' 41 37 := codeHd_of_K X' (by kernel_rfl)
  k_steps
  refine Stop.in ?_
  first | (k_dflt (refine' rep_K ?z3k1 ?z3k2 ?z3k3 ?z3k4 ?_; (case z3k1 => k_asm); (case z3k2 => k_asm); (case z3k3 => k_mem); (case z3k4 => assumption); k_whole); intro D' h' vs' F' N' l1 i1 n1; (try k_lt l1)) | fail
  k_steps
  refine Stop.in ?_
  first | (k_dflt (refine' nestDef_K ?z7d0 ?z7k0 ?z7a0 ?_; (case z7d0 => exact rfl); (case z7k0 => exact rfl); (case z7a0 => exact rfl)); k_dflt (refine' nest_any (own := [_, _, _, _, _]) (li := 39) (co := 4) ?z7F ?z7N ?z7hn ?z7T ?z7C ?z7cd ?z7A ?z7o ?z7nf ?z7li ?z7co ?z7t ?z7n ?z7cl ?_; (case z7F => k_asm); (case z7N => k_asm); (case z7hn => rfl); (case z7T => k_asm); (case z7cd => exact rfl); (case z7C => kn_code); (case z7A => assumption); (case z7o => exact Cl.cons (by simp) (Cl.cons (by simp) (Cl.cell (by assumption) (Cl.cell (by assumption) (Cl.cell (by assumption) Cl.nil))))); (case z7nf => exact NoF.list (NoF.list (NoF.cell (by assumption) (NoF.cell (by assumption) (NoF.cell (by assumption) NoF.nil))))); (case z7li => rfl); (case z7co => rfl); (case z7t => intro _; kn_triples); (case z7n => intro _; kn_hit); (case z7cl => exact rfl); k_whole); intro f' c' oc' vs' t' ct' dc' h' tk' F' N' d1' d2' l1 l2; (try dsimp only [List.cons_append, List.nil_append] at N'); (try k_lt l1); have n1 := l2 _ (.head _); have n2 := l2 _ (.tail _ (.head _)); have n3 := l2 _ (.tail _ (.tail _ (.head _))); have n4 := l2 _ (.tail _ (.tail _ (.tail _ (.head _)))); have n5 := l2 _ (.tail _ (.tail _ (.tail _ (.tail _ (.head _))))); clear l2; dsimp only at n1 n2 n3 n4 n5) | fail
  k_steps
  ·
    refine Stop.in ?_
    first | ((with_reducible show wpAny _ _ (call (Value.builtin "len") [Value.ref _]) _ _ _); k_dflt (refine' len_lK ?z1k1 ?z1k2 ?z1k3 ?_; (case z1k1 => k_asm); (case z1k2 => k_mem)); (case z1k3 => (show _; omega)); k_whole; intro _) | fail
    k_steps
    refine Stop.in ?_
    (rename News _ _ _ _ => Nn)
    rename IntsAre _ _ => hi0
    rename List.length _ = _ => hl0
    refine with_call fun f hff => ?_
    subst hff
    refine with_mem Nn (by repeat (first | exact List.Mem.head _ | apply List.Mem.tail)) fun D0 vl0 hD0 hvl0 => ?_
    subst hD0
    subst hvl0
    refine with_upd (d := D0) (o := listOf vl0.toArray 0) (o' := listOf vl0.toArray 0) Nn (by k_dflt k_upd) fun Bl R2 hBl hne hin NB => ?_
    try (have hm0 := hin (_, _) (by rw [hBl]; exact List.Mem.head _) (by k_ne))
    try (have hm1 := hin (_, _) (by rw [hBl]; exact List.Mem.tail _ (List.Mem.head _)) (by k_ne))
    try (have hm2 := hin (_, _) (by rw [hBl]; exact List.Mem.tail _ (List.Mem.tail _ (List.Mem.head _))) (by k_ne))
    try (have hm3 := hin (_, _) (by rw [hBl]; exact List.Mem.tail _ (List.Mem.tail _ (List.Mem.tail _ (List.Mem.head _)))) (by k_ne))
    try (have hm4 := hin (_, _) (by rw [hBl]; exact List.Mem.tail _ (List.Mem.tail _ (List.Mem.tail _ (List.Mem.tail _ (List.Mem.head _))))) (by k_ne))
    try (have hm5 := hin (_, _) (by rw [hBl]; exact List.Mem.tail _ (List.Mem.tail _ (List.Mem.tail _ (List.Mem.tail _ (List.Mem.tail _ (List.Mem.head _)))))) (by k_ne))
    try (have hm6 := hin (_, _) (by rw [hBl]; exact List.Mem.tail _ (List.Mem.tail _ (List.Mem.tail _ (List.Mem.tail _ (List.Mem.tail _ (List.Mem.tail _ (List.Mem.head _))))))) (by k_ne))
    try (have hm7 := hin (_, _) (by rw [hBl]; exact List.Mem.tail _ (List.Mem.tail _ (List.Mem.tail _ (List.Mem.tail _ (List.Mem.tail _ (List.Mem.tail _ (List.Mem.tail _ (List.Mem.head _)))))))) (by k_ne))
    have inner : ∀ (sz lo hi : Nat) (x : Int) (ta tb tc : Tok) (vl : List Value), hi - lo ≤ sz → lo < hi → hi ≤ vl.length → vl.length < 1000000 → 0 ≤ x ∧ x < 2 ^ (n.toNat * (hi - lo)) → (hi - lo < 200) → 
        SpecT PySem.Challenge.pw_wf0044_02 w (Mine.hd.heap_39 w.params) topProg loose mean mg mb (hi - lo + 3) (8 * (hi - lo) + 40) f [.int x tb, .int lo ta, .int hi tc] ((D0, listOf vl.toArray 0) :: R2)
          (fun v T' => v = .none ∧ ∃ ws, IntsAre ws (digs n.toNat (hi - lo) x) ∧ T' = (D0, listOf (vl.take lo ++ ws ++ vl.drop hi).toArray 0) :: R2) := by
      intro sz
      induction sz with
      | zero => intro lo hi x ta tb tc vl h1 h2; omega
      | succ sz ih =>
        intro lo hi x ta tb tc vl h1 h2 h3 h4 hx h5
        unfold SpecT
        intro dp2 un2 gd2 cn2 cs2 a2 ccd2 cl2 outer2 A2 base2 h20 L2 m2 s2 Q2 E2 B2 F2 X2 N2 Tp2 hk2 hd2 hu2 hret2
        refine wpAny_call ?_
        k_dflt (refine' code_nest ?k1 ?k2 ?k3 ?k4 ?k5 ?kA ?kF ?kK ?k6 ?k7 ?k8 ?k9 ?kB ?_ ?c2 ?c3 ?c4 ?c5; (case kA => exact rfl); (case kF => exact rfl); (case kK => assumption); (case k1 => k_asm); (case k2 => k_asm); (case k3 => k_asm); (case k4 => k_asm); (case k5 => k_asm); (case k6 => k_mem); (case k7 => exact codeRec_news (by k_asm) (by k_mem) (by assumption) (by assumption)); (case k8 => ktr_room); (case k9 => exact BindsTo.of_eq rfl); (case c5 => decide); (case kB => exact locs rfl); (case c2 => exact rfl); (case c3 => exact rfl); (case c4 => exact rfl); k_whole; intro g3 L3 h3 FG3 F3 N3 B3 X3 T3; (try dsimp only); (try k_lift B3); (try k_fold))
        have hmid : ((lo : Int) + hi) / 2 = (((lo + hi) / 2 : Nat) : Int) := by omega
        obtain ⟨mid, hmd⟩ : ∃ mid, mid = (lo + hi) / 2 := ⟨_, rfl⟩
        rw [← hmd] at hmid
        have hset : 0 ≤ (lo : Int) ∧ (lo : Int) < vl.length ∧ vl.length < 1000000 := ⟨by omega, by omega, h4⟩
        have hsn : (((mid : Int) - lo) * n).toNat = n.toNat * (mid - lo) := sh_nat (by omega) (by omega)
        have hsh0 : 0 ≤ (((lo : Int) + hi) / 2 - lo) * n := by rw [hmid]; exact Int.mul_nonneg (by omega) (by omega)
        have hsh : 0 ≤ (((lo : Int) + hi) / 2 - lo) * n ∧ (((lo : Int) + hi) / 2 - lo) * n ≤ 10000000 := shift_rng ⟨by omega, by omega⟩ hn
        have hS : Small (x / 2 ^ ((((lo : Int) + hi) / 2 - lo) * n).toNat) := digs_small hn hx h5
        k_steps
        · refine Stop.in ?_
          first | (k_dflt (refine' set_lK ?z4k1 ?z4k2 ?z4k3 ?z4k4 ?_; (case z4k1 => k_asm); (case z4k2 => k_asm); (case z4k3 => k_upd); (case z4k4 => assumption); k_whole); intro h' F' N'; (try k_sweep)) | fail
          k_steps
          have e : hi = lo + 1 := by omega
          subst e
          rename News g3 L3 _ _ => NZ
          rename Fr h20 L2 _ _ => FZ
          rename News h20 L2 _ _ => NY
          refine hret2 _ _ _ _ FZ NY ⟨rfl, [.int x tb], ?_, ?_⟩
          · rw [show lo + 1 - lo = 1 from by omega] at hx ⊢
            rw [digs_one hx.1 (by rw [Nat.mul_one] at hx; exact hx.2)]
            exact IntsAre.cons x tb IntsAre.nil
          · rw [Int.toNat_natCast, put_one (by omega)]
        · refine Stop.in ?_
          first | (with_reducible refine rshift1_K ?_) | (refine rshift_K (by assumption) ?_)
          k_steps
          refine Stop.in ?_
          refine mul_K (small_int (by omega)) (small_int (by omega)) ?_
          k_steps
          refine Stop.in ?_
          first | (with_reducible refine rshift1_K ?_) | (refine rshift_K (by assumption) ?_)
          k_steps
          refine Stop.in ?_
          refine lshift_K (by assumption) (by assumption) ?_
          k_steps
          refine Stop.in ?_
          rw [xor_low hx.1, hmid, hsn]
          k_dflt (refine' specT_useQ (ih lo mid (x % 2 ^ (n.toNat * (mid - lo))) _ _ _ vl (by omega) (by omega) (by omega) h4 lo_rng (by omega)) ?k1 ?k2 ?k3 ?k4 ?k5 ?kK ?ks ?kd ?ku ?_; (case k1 => k_asm); (case k2 => k_asm); (case k3 => k_asm); (case k4 => k_asm); (case k5 => k_asm); (case kK => exact rfl); (case ks => exact fun _ h => h))
          case kd => ktr_room
          case ku => ktr_units
          rintro Q' hQ' r T4 h4 tk4 F4 N4 ⟨rfl, ws1, hw1, rfl⟩
          refine hQ' _ _ _ ?_
          clear hQ' Q'
          have hwl : ws1.length = mid - lo := by rw [hw1.length, digs_len]
          have hvl1 := put_len (vl := vl) (ws := ws1) (lo := lo) (hi := mid) (by omega) (by omega) hwl
          replace N4 : News g3 L3 h4 ((D0, listOf (vl.take lo ++ ws1 ++ vl.drop mid).toArray 0) :: R2) := N4
          k_steps
          refine Stop.in ?_
          rw [hmid, hsn]
          k_dflt (refine' specT_useQ (ih mid hi (x / 2 ^ (n.toNat * (mid - lo))) _ _ _ (vl.take lo ++ ws1 ++ vl.drop mid) (by omega) (by omega) (by omega) (by omega) (hi_rng (by omega) (by omega) hx) (by omega)) ?k1 ?k2 ?k3 ?k4 ?k5 ?kK ?ks ?kd ?ku ?_; (case k1 => k_asm); (case k2 => k_asm); (case k3 => k_asm); (case k4 => k_asm); (case k5 => k_asm); (case kK => exact rfl); (case ks => exact fun _ h => h))
          case kd => ktr_room
          case ku => ktr_units
          rintro Q' hQ' r T5 h5 tk5 F5 N5 ⟨rfl, ws2, hw2, rfl⟩
          refine hQ' _ _ _ ?_
          clear hQ' Q'
          replace N5 : News g3 L3 h5 ((D0, listOf ((vl.take lo ++ ws1 ++ vl.drop mid).take mid ++ ws2 ++ (vl.take lo ++ ws1 ++ vl.drop mid).drop hi).toArray 0) :: R2) := N5
          k_steps
          rename Fr h20 L2 _ _ => FZ
          rename News h20 L2 _ _ => NY
          refine hret2 _ _ _ _ FZ NY ⟨rfl, ws1 ++ ws2, ?_, ?_⟩
          · rw [← digs_join (n := n.toNat) (x := x) (lo := lo) (mid := mid) (hi := hi) (by omega) (by omega)]
            exact IntsAre.append hw1 hw2
          · rw [put_join (by omega) (by omega) (by assumption) hwl]
    have hbig : 0 ≤ a0 ∧ a0 < 2 ^ (n.toNat * (vl0.length - 0)) := by
      refine ⟨ha, ?_⟩
      rw [Nat.sub_zero, hl0, hfd, Int.toNat_natCast]
      exact figs_big (by omega) ha
    have hvn : vl0.length = figs n.toNat a0 := by rw [hl0, hfd, Int.toNat_natCast]
    have hpos := figs_pos (n := n.toNat) (a := a0) (by omega) (by assumption)
    have inn := fun ta tb tc => inner vl0.length 0 vl0.length a0 ta tb tc vl0 (by omega) (by omega) (Nat.le_refl _) (by omega) hbig (by omega)
    simp only [show ((0 : Nat) : Int) = 0 from rfl] at inn
    k_dflt (refine' specT_useQ (inn _ _ _) ?k1 ?k2 ?k3 ?k4 ?k5 ?kK ?ks ?kd ?ku ?_; (case k1 => k_asm); (case k2 => k_asm); (case k3 => k_asm); (case k4 => k_asm); (case k5 => k_asm); (case kK => exact rfl); (case ks => exact fun _ h => h))
    case kd => ktr_room
    case ku => ktr_units
    rintro Q' hQ' r T5 h5 tk5 F5 N5 ⟨rfl, ws, hw, rfl⟩
    refine hQ' _ _ _ ?_
    clear hQ' Q'
    replace N5 : News g' L' h5 ((D0, listOf ws.toArray 0) :: R2) := by
      rw [List.take_zero, List.nil_append, List.drop_length, List.append_nil] at N5
      exact N5
    k_steps
    rename Fr h₀ L _ _ => FZ
    rename News h₀ L _ _ => NY
    obtain ⟨A', NA, hA⟩ := tab_exit (P := 37) (li := 39) (co := 4) (q := Str.ofString "_int2digits.<locals>.inner") (R := (D0, listOf ws.toArray 0) :: R) NY (by k_mem) (by k_mem)
      (fun p hp => by
        rcases List.mem_cons.mp hp with rfl | hp
        · exact List.Mem.head _
        · exact List.Mem.tail _ (hin p (by rw [hBl]; repeat (first | exact hp | apply List.Mem.tail)) (allNe_lt lR (by show @LE.le Nat _ _ _; omega) p hp))) (by assumption) (by assumption)
    rw [Nat.sub_zero, hvn] at hw
    exact hret _ _ _ _ FZ NA ⟨_, ws, A', rfl, hw, rfl, hA, allLt_le lR (by show @LE.le Nat _ _ _; omega)⟩
  · rename IntsAre _ _ => hi0
    rename List.length _ = _ => hl0
    have e0 : a0 = 0 := by assumption
    subst e0
    rw [hfd, figs_zero (by omega)] at hl0
    rename Fr h₀ L _ _ => FZ
    rename News h₀ L _ _ => NY
    obtain ⟨A', NA, hA⟩ := tab_exit (P := 37) (li := 39) (co := 4) (q := Str.ofString "_int2digits.<locals>.inner") (R := (_, listOf (List.toArray _) 0) :: R) NY (by repeat (first | exact List.Mem.head _ | apply List.Mem.tail)) (by repeat (first | exact List.Mem.head _ | apply List.Mem.tail))
      (fun p hp => by
        rcases List.mem_cons.mp hp with rfl | hp
        · repeat (first | exact List.Mem.head _ | apply List.Mem.tail)
        · repeat (first | exact hp | apply List.Mem.tail)) (by assumption) (by assumption)
    refine hret _ _ _ _ FZ NA ⟨_, _, A', rfl, ?_, rfl, hA, allLt_le lR (by show @LE.le Nat _ _ _; omega)⟩
    have e1 := List.length_eq_zero_iff.mp hl0
    rw [e1, figs_zero (by omega)]
    exact IntsAre.nil
theorem i2d_spec (w : World) (loose mean mg mb) (R Tb : Led) (hT : Tabs 44 37 Tb) (hC : Cl R) (n a0 : Int) (t1 t2 : Tok) (hn : 0 < n ∧ n < 5000) (ha : 0 ≤ a0) (hkf : figs n.toNat a0 < 200) :
   SpecT PySem.Challenge.pw_wf0044_02 w (Mine.hd.heap_39 w.params) topProg loose mean mg mb 250 2000 42 [.int a0 t1, .int n t2] (R ++ Tb) (fun v T' => ∃ D vs, v = .ref D ∧ IntsAre vs (digs n.toNat (figs n.toNat a0) a0) ∧ (∀ q ∈ R, q.1 < D) ∧ ∃ Tb', T' = (D, listOf vs.toArray 0) :: (R ++ Tb') ∧ Tabs 44 37 Tb') :=
  SpecT.tabB hT hC (by decide) fun T R₀ hR h => i2d_in w loose mean mg mb T R₀ h n a0 t1 t2 hn ha hkf
end Mine
end
section
open PySem PySem.W PyProof.Rows PySem.Calls
set_option maxRecDepth 100000
namespace Mine
local macro_rules | `(tactic| k_mem) => `(tactic| assumption)
local macro_rules | `(tactic| k_all) => `(tactic| first | assumption | (refine allNe_lt (by assumption) ?_; show @LE.le Nat _ _ _; omega))
local macro_rules | `(tactic| walk_at "call builtin:divmod") => `(tactic| (k_here; refine Stop.mk ?_))
noncomputable def dmPost (x y : Int) (v : Value) (new : Led) : Prop := ∃ D u1 u2, v = .ref D ∧ new = [(D, tupObj [.int x u1, .int y u2])]
set_option exponentiation.threshold 6000 in
set_option maxHeartbeats 8000000 in
theorem d21_spec (w : World) (loose mean mg mb) (T : Led) (x y n : Int) (t1 t2 t3 : Tok) (hx : ((Builtin.Int.intBits x : Nat) : Int) - n ≤ 4000) (hy : 0 < y) (hys : y.natAbs < 2 ^ 5000) :
   Spec PySem.Challenge.pw_wf0044_02 w (Mine.hd.heap_39 w.params) topProg loose mean mg mb 5 20 28 [.int x t1, .int y t2, .int n t3] T (dmPost (x / y) (x % y)) := by
  unfold Spec
  intro dp un gd cn cs a ccd cl outer A₀ base h₀ L m s Q E B F X N Tp hk hd hu hret
  refine wpAny_call ?_
  have hk0 : (PySem.Challenge.rw_wf0044_02 = PySem.Challenge.rw_wf0044_02 ∧ Mine.hd.heap_39 = Mine.hd.heap_39) := by (k_fill; exact ⟨rfl, rfl⟩)
  clear hk0
  k_dflt ktr_enter
  k_steps
  refine Stop.in ?_
  first | ((with_reducible show wpAny _ _ (call (Value.builtin _) [Value.int _ _, Value.int _ _]) _ _ _); k_dflt (refine' divmod_K ?y1k1 ?y1k2 ?y1k3 ?y1k4 ?_; (case y1k1 => k_asm); (case y1k2 => k_asm); (case y1k3 => assumption); (case y1k4 => assumption); k_whole); intro D' h' t1' t2' tk' F' N' l1; (try k_lt l1); (try k_sweep)) | fail
  k_steps
  exact hret1 hret (by assumption) (by assumption) (by assumption) ⟨_, _, _, rfl, rfl⟩
end Mine
end
section
open PySem PySem.W PyProof.Rows PySem.Calls
set_option maxRecDepth 100000
namespace Mine
local macro_rules | `(tactic| k_mem) => `(tactic| first | assumption | exact List.Mem.tail _ (by assumption))
local macro_rules | `(tactic| k_all) => `(tactic| first | assumption | (refine allNe_lt (by assumption) ?_; show @LE.le Nat _ _ _; omega))
local macro_rules | `(tactic| walk_at "call ref") => `(tactic| (k_here; refine Stop.mk ?_))
local macro_rules | `(tactic| walk_at "pyIter ref") => `(tactic| (k_here; refine Stop.mk ?_))
local macro_rules | `(tactic| walk_at "binaryOp LShift int int") => `(tactic| (k_here; refine lshift_K (by assumption) (by assumption) ?_))
local macro_rules | `(tactic| walk_at "call builtin:list.append") => `(tactic| (k_here; refine Stop.mk ?_))
local macro_rules | `(tactic| walk_at "call builtin:list.reverse") => `(tactic| (k_here; refine Stop.mk ?_))
set_option exponentiation.threshold 6000 in
set_option maxHeartbeats 8000000 in
theorem dmp_spec (w : World) (loose mean mg mb) (R Tb : Led) (hT : Tabs 44 37 Tb) (hC : Cl R) (x y : Int) (t1 t2 : Tok) (hx : 0 ≤ x) (hy : 0 < y) (hys : y.natAbs < 2 ^ 2000) (hkf : figs (Builtin.Int.intBits y) x < 200) :
   SpecT PySem.Challenge.pw_wf0044_02 w (Mine.hd.heap_39 w.params) topProg loose mean mg mb 300 2200 56 [.int x t1, .int y t2] (R ++ Tb) (fun v T' => ∃ D u1 u2 Tb', v = .ref D ∧ (∀ q ∈ R, q.1 < D) ∧ T' = (D, tupObj [.int (x / y) u1, .int (x % y) u2]) :: (R ++ Tb') ∧ Tabs 44 37 Tb') := by
  unfold SpecT
  intro dp un gd cn cs a ccd cl outer A₀ base h₀ L m s Q E B F X N Tp hk hd hu hret
  refine wpAny_call ?_
  have hk0 : (PySem.Challenge.rw_wf0044_02 = PySem.Challenge.rw_wf0044_02 ∧ Mine.hd.heap_39 = Mine.hd.heap_39) := by (k_fill; exact ⟨rfl, rfl⟩)
  clear hk0
  k_dflt ktr_enter
  k_steps
  refine Stop.in ?_
  have hb0 : 0 < Builtin.Int.intBits y := by
    unfold Builtin.Int.intBits
    rw [if_neg (by simp; omega)]
    omega
  have hb1 : Builtin.Int.intBits y ≤ 2000 := PySem.intBits_le_iff.mpr hys
  k_dflt (refine' specT_useQ (i2d_spec w loose mean mg mb R Tb hT hC _ x _ _ ⟨by omega, by omega⟩ hx (by rw [Int.toNat_natCast]; exact hkf)) ?k1 ?k2 ?k3 ?k4 ?k5 ?kK ?ks ?kd ?ku ?_; (case k1 => k_asm); (case k2 => k_asm); (case k3 => k_asm); (case k4 => k_asm); (case k5 => k_asm); (case kK => exact rfl); (case ks => exact fun _ h => h))
  case kd => ktr_room
  case ku => ktr_units
  rintro Q' hQ' rv T4 h4 tk4 F4 N4 ⟨D, vs, rfl, hi, hlt, Tb', rfl, hT'⟩
  refine hQ' _ _ _ ?_
  clear hQ' Q'
  dsimp only at F4 N4
  obtain ⟨W, hW⟩ : ∃ W, W = R ++ Tb' := ⟨_, rfl⟩
  rw [← hW] at N4
  k_steps
  refine Stop.in ?_
  (rename News _ _ _ _ => Nn)
  (rename Fr _ _ _ _ => FF)
  have hvl := hi.length
  refine with_obj (listOf #[] 0) Nn (by repeat (first | exact List.Mem.head _ | apply List.Mem.tail)) fun D2 hD2 => ?_
  subst hD2
  refine with_fr FF fun m0 hm0 F0 => ?_
  rename _ ∧ AllLt D2 W => lD2
  obtain ⟨lD, lW⟩ := lD2
  refine iter_revJ (vs := vs) (k := 0) (J := fun rest m led => ∃ u rv tr qv kq dsL dsH, m = (fun z => if z = Str.ofString "r" then some (.int rv tr) else mapD [Str.ofString "r", Str.ofString "q_digit", Str.ofString "a_digit"] u m0 z) ∧ led = (D2, listOf (List.toArray qv) kq) :: (D, listOf vs.toArray 0) :: W ∧
      IntsAre rest.reverse dsL ∧ dsL ++ dsH = digs (Builtin.Int.intBits y) (figs (Builtin.Int.intBits y) x) x ∧ rv = (ldiv (Builtin.Int.intBits y) y dsH).2 ∧ IntsAre qv (ldiv (Builtin.Int.intBits y) y dsH).1.reverse)
     rfl F0 Nn ?_ ?_ ?_ ?_ ?_ ?_
  · k_dflt k_all
  · exact .tail _ (.head _)
  · intro r m led hp'1
    refine Classical.byContradiction fun hG' => ?_
    obtain ⟨u, rv, tr, qv, kq, dsL, dsH, rfl, rfl, _⟩ := hp'1
    refine hG' ?_
    clear hG'
    exact .tail _ (.head _)
  · subst hm0
    rw [Int.toNat_natCast] at hi
    exact ⟨_, 0, _, [], 0, _, [], map_one rfl map_self, rfl, by rw [List.reverse_reverse]; exact hi, List.append_nil _, rfl, IntsAre.nil⟩
  · subst hm0
    intro v r m1 led h tk it hp'1 hoI hic FT NT
    refine Classical.byContradiction fun hG' => ?_
    obtain ⟨u, rv, tr, qv, kq, dsL, dsH, rfl, rfl, hL, hds, hrv, hqv⟩ := hp'1
    refine hG' ?_
    clear hG'
    rw [List.reverse_cons] at hL
    refine Classical.byContradiction fun hG' => ?_
    obtain ⟨d, td, dsL', rfl, rfl, hL'⟩ := ints_snoc hL
    refine hG' ?_
    clear hG'
    have hdr : ∀ z ∈ (dsL' ++ [d]) ++ dsH, 0 ≤ z ∧ z < 2 ^ Builtin.Int.intBits y := by rw [hds]; exact digs_rng _ _
    have hdd := hdr d (by simp)
    have hr := ldiv_rem (n := Builtin.Int.intBits y) hy dsH
    rw [← hrv] at hr
    have hyb := bits_lt hy
    have hS : Small rv := small_pow (k := 2000) (Nat.lt_of_lt_of_le (Int.natAbs_lt_natAbs_of_nonneg_of_lt hr.1 hr.2) (Nat.le_of_lt hys)) (by unfold big; omega)
    have hsh : 0 ≤ ((Builtin.Int.intBits y : Nat) : Int) ∧ ((Builtin.Int.intBits y : Nat) : Int) ≤ 10000000 := by omega
    have hsb := step_bits hb1 ⟨hr.1, by omega⟩ hdd
    k_steps
    refine Stop.in ?_
    have hys5 : y.natAbs < 2 ^ 5000 := Nat.lt_of_lt_of_le hys (Nat.pow_le_pow_right (by decide) (by decide))
    k_dflt (refine' spec_useQ (d21_spec w loose mean mg mb _ _ y _ _ _ _ (by rw [Int.toNat_natCast]; exact hsb) hy hys5) ?k1 ?k2 ?k3 ?k4 ?k5 ?kK ?kd ?ku ?_; (case k1 => k_asm); (case k2 => k_asm); (case k3 => k_asm); (case k4 => k_asm); (case k5 => k_asm); (case kK => exact rfl))
    case kd => ktr_room
    case ku => ktr_units
    rintro Q' hQ' rv5 new5 h5 tk5 F5 N5 l5 ⟨Dt, u1, u2, rfl, rfl⟩
    refine hQ' _ _ _ ?_
    clear hQ' Q'
    dsimp only at F5 N5
    have hql : qv.length < 1000000 := by rw [hqv.length, List.length_reverse, ldiv_len]; have := congrArg List.length hds; rw [digs_len, List.length_append] at this; omega
    have ne2 : @Ne Nat D2 _ := hoI _ (.head _)
    have lt2 : @LT.lt Nat _ D2 Dt := l5 _ (.tail _ (.head _)) _ (.head _)
    k_steps
    refine Stop.in ?_
    first | ((with_reducible show wpAny _ _ (call (Value.builtin _) [Value.ref _, _]) _ _ _); k_dflt (refine' append_lK ?y2k1 ?y2k2 ?y2k3 ?y2k4 ?_; (case y2k1 => k_asm); (case y2k2 => k_asm); (case y2k3 => k_upd); (case y2k4 => assumption); k_whole); intro h' F' N'; (try k_sweep)) | fail
    k_steps
    rename Fr _ _ _ _ => FZ
    rename News _ _ _ _ => NZ
    refine TurnJ.fin1 FZ NZ ?_ ?_
    · intro p hp
      rcases List.mem_cons.mp hp with rfl | hp
      · exact ne2
      · exact hoI p (.tail _ hp)
    refine ⟨_, _, _, _, _, dsL', d :: dsH, map_one rfl (by repeat (first | exact map_base | refine map_peel (by decide) ?_)), rfl, ?_, ?_, ?_, ?_⟩
    · exact hL'
    · rw [← hds, List.append_assoc]; rfl
    · rw [ldiv, hrv, Int.toNat_natCast]
    · rw [ldiv, List.reverse_cons]
      refine hqv.append ?_
      rw [← hrv, Int.toNat_natCast]
      exact IntsAre.cons _ _ IntsAre.nil
  · subst hm0
    intro m1 led h tk hp'1 FT NT
    refine Classical.byContradiction fun hG' => ?_
    obtain ⟨u, rv, tr, qv, kq, dsL, dsH, rfl, rfl, hL, hds, hrv, hqv⟩ := hp'1
    refine hG' ?_
    clear hG'
    have e0 : dsL = [] := by cases hL; rfl
    subst e0
    rw [List.nil_append] at hds
    have hql : qv.length < 1000000 := by rw [hqv.length, List.length_reverse, ldiv_len, hds, digs_len]; omega
    have hxb := figs_big (n := Builtin.Int.intBits y) hb0 hx
    have hval := ldiv_val (n := Builtin.Int.intBits y) hy dsH
    rw [hds, dnum_digs _ x ⟨hx, hxb⟩, ← hds] at hval
    k_steps
    refine Stop.in ?_
    first | ((with_reducible show wpAny _ _ (call (Value.builtin _) [Value.ref _]) _ _ _); k_dflt (refine' reverse_lK ?y1k1 ?y1k2 ?y1k3 ?y1k4 ?_; (case y1k1 => k_asm); (case y1k2 => k_asm); (case y1k3 => k_upd); (case y1k4 => assumption); k_whole); intro h' F' N'; (try k_sweep)) | fail
    k_steps
    refine Stop.in ?_
    have hqi := ints_rev hqv
    rw [List.reverse_reverse] at hqi
    have hdig : ∀ d ∈ (ldiv (Builtin.Int.intBits y) y dsH).1, d.natAbs < 2 ^ 5000 := fun d hd => by
      have h1 := ldiv_rng (n := Builtin.Int.intBits y) hy dsH (by rw [hds]; exact digs_rng _ _) d hd
      exact Nat.lt_of_lt_of_le (natAbs_lt_pow h1.1 h1.2) (Nat.pow_le_pow_right (by decide) (by omega))
    have hlen : (ldiv (Builtin.Int.intBits y) y dsH).1.length < 200 := by rw [ldiv_len, hds, digs_len]; exact hkf
    k_dflt (refine' specT_useQ (d2i_spec w loose mean mg mb ((D2, listOf qv.reverse.toArray kq) :: R) Tb' hT' (Cl.cons (by simp) hC) D2 _ _ kq _ _ (List.Mem.head _) hqi hlen ⟨by omega, by omega⟩ hdig) ?k1 ?k2 ?k3 ?k4 ?k5 ?kK ?ks ?kd ?ku ?_; (case k1 => k_asm); (case k2 => k_asm); (case k3 => k_asm); (case k4 => k_asm); (case k5 => k_asm); (case kK => exact rfl))
    case ks =>
      intro q hq
      rcases List.mem_cons.mp hq with rfl | hq
      · exact List.Mem.head _
      · exact List.Mem.tail _ (List.Mem.tail _ (by rw [hW]; exact hq))
    case kd => ktr_room
    case ku => ktr_units
    rintro Q' hQ' rv6 T6 h6 tk6 F6 N6 ⟨⟨t6, rfl⟩, Tb6, rfl, hT6⟩
    refine hQ' _ _ _ ?_
    clear hQ' Q'
    dsimp only at F6 N6
    rw [Int.toNat_natCast, hval.1, hrv, hval.2] at *
    refine Classical.byContradiction fun hG' => ?_
    obtain ⟨W6, hW6⟩ : ∃ W6, W6 = (D2, listOf qv.reverse.toArray kq) :: R ++ Tb6 := ⟨_, rfl⟩
    refine hG' ?_
    clear hG'
    rw [← hW6] at N6
    k_steps
    rename Fr h₀ L _ _ => FZ
    rename News h₀ L _ _ => NZ
    rename ∀ p ∈ W6, _ => l6
    have NQ := news_hd (T2 := R ++ Tb6) NZ (fun q hq => by rw [hW6]; exact List.Mem.tail _ hq)
    refine hret _ _ _ _ FZ NQ ⟨_, _, _, Tb6, rfl, ?_, rfl, hT6⟩
    intro q hq
    exact l6 q (by rw [hW6]; exact List.Mem.tail _ (List.mem_append_left _ hq))
end Mine
end
section
open PySem PySem.W PyProof.Rows PySem.Calls
set_option maxRecDepth 100000
namespace Mine
local macro_rules | `(tactic| k_mem) => `(tactic| first | assumption | exact List.Mem.tail _ (by assumption))
local macro_rules | `(tactic| walk_at "call ref") => `(tactic| (k_here; refine Stop.mk ?_))
noncomputable def dmT (P P' : Addr) (R : Led) (x y : Int) (v : Value) (T' : Led) : Prop := ∃ D u1 u2 Tb', v = .ref D ∧ (∀ q ∈ R, q.1 < D) ∧ T' = (D, tupObj [.int (x / y) u1, .int (x % y) u2]) :: (R ++ Tb') ∧ Tabs P P' Tb'
set_option exponentiation.threshold 6000 in
set_option maxHeartbeats 8000000 in
theorem idm_spec (w : World) (loose mean mg mb) (R Tb : Led) (hT : Tabs 44 37 Tb) (hC : Cl R) (x y : Int) (t1 t2 : Tok) (hx : 0 ≤ x) (hy : 0 < y) (hys : y.natAbs < 2 ^ 2000) (hkf : figs (Builtin.Int.intBits y) x < 200) :
   SpecT PySem.Challenge.pw_wf0044_02 w (Mine.hd.heap_39 w.params) topProg loose mean mg mb 310 2300 63 [.int x t1, .int y t2] (R ++ Tb) (dmT 44 37 R x y) := by
  unfold SpecT
  intro dp un gd cn cs a ccd cl outer A₀ base h₀ L m s Q E B F X N Tp hk hd hu hret
  refine wpAny_call ?_
  have hk0 : (PySem.Challenge.rw_wf0044_02 = PySem.Challenge.rw_wf0044_02 ∧ Mine.hd.heap_39 = Mine.hd.heap_39) := by (k_fill; exact ⟨rfl, rfl⟩)
  clear hk0
  k_dflt ktr_enter
  k_steps
  first | (· exfalso; omega) | skip
  refine Stop.in ?_
  k_dflt (refine' specT_useQ (dmp_spec w loose mean mg mb R Tb hT hC x y _ _ hx hy hys hkf) ?k1 ?k2 ?k3 ?k4 ?k5 ?kK ?ks ?kd ?ku ?_; (case k1 => k_asm); (case k2 => k_asm); (case k3 => k_asm); (case k4 => k_asm); (case k5 => k_asm); (case kK => exact rfl); (case ks => exact fun _ h => h))
  case kd => ktr_room
  case ku => ktr_units
  rintro Q' hQ' rv6 T6 h6 tk6 F6 N6 ⟨D, u1, u2, Tb6, rfl, l6, rfl, hT6⟩
  refine hQ' _ _ _ ?_
  clear hQ' Q'
  dsimp only at F6 N6
  k_steps
  rename Fr h₀ L _ _ => FZ
  rename News h₀ L _ _ => NZ
  exact hret _ _ _ _ FZ NZ ⟨_, _, _, Tb6, rfl, l6, rfl, hT6⟩
end Mine
end
section
open PySem PySem.W PyProof.Rows PySem.Calls
set_option maxRecDepth 100000
set_option exponentiation.threshold 6000
namespace Mine
inductive figNPost (w c : Nat) (x : Int) (R : Led) (v : Value) (T' : Led) : Prop
  | mk (D : Addr) (vs : List Value) (k : Nat) (Tb' : Led) (e1 : v = .ref D) (e2 : IntsAre vs (digs w c x)) (e3 : ∀ q ∈ R, q.1 ≠ D) (e4 : T' = (D, listOf vs.toArray k) :: (R ++ Tb')) (e5 : Tabs 44 37 Tb') : figNPost w c x R v T'
local macro_rules | `(tactic| k_mem) => `(tactic| first | assumption | exact List.Mem.tail _ (by assumption))
local macro_rules | `(tactic| walk_at "call ref") => `(tactic| (k_here; refine Stop.mk ?_))
local macro_rules | `(tactic| walk_at "call builtin:len") => `(tactic| (k_here; refine Stop.mk ?_))
local macro_rules | `(tactic| walk_at "binaryOp Mult ref int") => `(tactic| (k_here; refine Stop.mk ?_))
local macro_rules | `(tactic| walk_at "binaryOp Add ref ref") => `(tactic| (k_here; refine Stop.mk ?_))
set_option maxHeartbeats 8000000 in
theorem figuresN_spec (w : World) (loose mean mg mb) (R Tb : Led) (hT : Tabs 44 37 Tb) (hC : Cl R) (y n : Int) (c : Nat) (t1 t2 t3 : Tok) (hn : 0 < n ∧ n < 5000) (hc : c < 10) (hy : 0 ≤ y) (hy2 : y < 2 ^ (n.toNat * c)) :
   SpecT PySem.Challenge.pw_wf0044_02 w (Mine.hd.heap_39 w.params) topProg loose mean mg mb 330 2500 113 [.int y t1, .int n t2, .int (c : Int) t3] (R ++ Tb) (figNPost n.toNat c y R) := by
  unfold SpecT
  intro dp un gd cn cs a ccd cl outer A₀ base h₀ L m s Q E B F X N Tp hk hd hu hret
  refine wpAny_call ?_
  have hk0 : (PySem.Challenge.rw_wf0044_02 = PySem.Challenge.rw_wf0044_02 ∧ Mine.hd.heap_39 = Mine.hd.heap_39) := by (k_fill; exact ⟨rfl, rfl⟩)
  clear hk0
  have hn1 : 0 < n.toNat := by omega
  have hfg := digs_figs (n := n.toNat) (j := c) (a := y) hn1 hy hy2
  have hfl : figs n.toNat y < 200 := by omega
  k_dflt ktr_enter
  k_steps
  refine Stop.in ?_
  k_dflt (refine' specT_useQ (i2d_spec w loose mean mg mb R Tb hT hC n y _ _ hn hy hfl) ?k1 ?k2 ?k3 ?k4 ?k5 ?kK ?ks ?kd ?ku ?_; (case k1 => k_asm); (case k2 => k_asm); (case k3 => k_asm); (case k4 => k_asm); (case k5 => k_asm); (case kK => exact rfl); (case ks => exact fun _ h => h))
  case kd => ktr_room
  case ku => ktr_units
  rintro Q' hQ' rv7 T7 h7 tk7 F7 N7 ⟨D7, vs7, rfl, i7, l7, Tb7, rfl, hT7⟩
  refine hQ' _ _ _ ?_
  clear hQ' Q'
  (try dsimp only at F7 N7)
  obtain ⟨W7, hW7⟩ : ∃ W, W = R ++ Tb7 := ⟨_, rfl⟩
  rw [← hW7] at N7
  have hl7 : vs7.length = figs n.toNat y := by rw [i7.length, len_figs]
  have hr7 : 0 ≤ (c : Int) - (vs7.length : Int) ∧ (c : Int) - (vs7.length : Int) < 1000000 := by omega
  k_steps
  refine Stop.in ?_
  first | ((with_reducible show wpAny _ _ (call (Value.builtin "len") [Value.ref _]) _ _ _); k_dflt (refine' len_lK ?y1k1 ?y1k2 ?y1k3 ?_; (case y1k1 => k_asm); (case y1k2 => k_mem)); (case y1k3 => (show _; omega)); k_whole; intro _) | fail
  k_steps
  refine Stop.in ?_
  first | (k_dflt (refine' rep_K ?y2k1 ?y2k2 ?y2k3 ?y2k4 ?_; (case y2k1 => k_asm); (case y2k2 => k_asm); (case y2k3 => k_mem); (case y2k4 => assumption); k_whole); intro D' h' vs' F' N' l1 i1 n1; (try k_lt l1)) | fail
  k_steps
  refine Stop.in ?_
  first | (k_dflt (refine' cat_K ?y3k1 ?y3k2 ?y3k3 ?y3k4 ?y3k5 ?_; (case y3k1 => k_asm); (case y3k2 => k_asm); (case y3k3 => k_mem); (case y3k4 => k_mem); (case y3k5 => (show _; omega)); k_whole); intro D' h' F' N' l1; (try k_lt l1); (try k_sweep)) | fail
  k_steps
  rename Fr h₀ L _ _ => FZ
  rename News h₀ L _ _ => NZ
  rename IntsAre _ (List.replicate _ 0) => iz
  have NY := news_hd (T2 := R ++ Tb7) NZ (fun q hq => .tail _ (.tail _ (.tail _ (hW7 ▸ hq))))
  refine hret _ _ _ _ FZ NY ⟨_, _, _, Tb7, rfl, ?_, ?_, rfl, hT7⟩
  · rw [← hfg.2, show c - figs n.toNat y = ((c : Int) - (vs7.length : Int)).toNat from by omega]
    exact i7.append iz
  · intro q hq
    rename _ ∧ _ ∧ _ ∧ AllLt _ W7 => lZ
    exact allLt_neOf lZ.2.2.2 q (hW7 ▸ List.mem_append_left _ hq)
end Mine
end
section
open PySem PySem.W PyProof.Rows PySem.Calls
open PyProof.Rows.LCg
set_option maxRecDepth 100000
set_option exponentiation.threshold 6000
namespace Mine
noncomputable def piece (ring : List (List Int)) (i : Nat) : List Int := [(mirD ring i).1, (mirD ring i).2.1, (mirD ring i).2.2]
noncomputable def octL (ring : List (List Int)) : List Int := piece ring 0 ++ (piece ring 1 ++ (piece ring 2 ++ (piece ring 3 ++ (piece ring 4 ++ piece ring 5))))
theorem octL_len (ring : List (List Int)) : (octL ring).length = 18 := rfl
theorem cut_piece (ring : List (List Int)) {i : Nat} (h : i < 6) : ((octL ring).drop ((some (0 + (i : Int) * 3)).elim 0 (clipAt (octL ring).length))).take ((some (0 + (i : Int) * 3 + 3)).elim (octL ring).length (clipAt (octL ring).length) - (some (0 + (i : Int) * 3)).elim 0 (clipAt (octL ring).length)) = piece ring i := by
  have : i = 0 ∨ i = 1 ∨ i = 2 ∨ i = 3 ∨ i = 4 ∨ i = 5 := by omega
  rcases this with rfl | rfl | rfl | rfl | rfl | rfl <;> rfl
theorem piece_small {ring : List (List Int)} (h9 : Nine ring) {i : Nat} (hi : i < 6) : ∀ d ∈ piece ring i, d.natAbs < 2 ^ 5000 := by
  intro d hd
  obtain ⟨a, b, c⟩ := h9 (5 - i) (by omega)
  have hd9 : 0 ≤ d ∧ d ≤ 9 := by
    simp only [piece, mirD, List.mem_cons, List.not_mem_nil, or_false] at hd
    rcases hd with rfl | rfl | rfl <;> assumption
  exact Nat.lt_of_lt_of_le (m := 2 ^ 4) (by omega) (Nat.pow_le_pow_right (by decide) (by decide))
theorem piece_dnum (w : Nat) (ring : List (List Int)) (i : Nat) : dnum w (piece ring i) = val3 (2 ^ w) (mirD ring i) := by
  simp only [piece, dnum, val3]
  generalize (2 : Int) ^ w = B
  grind
theorem row_rng {ring : List (List Int)} (h9 : Nine ring) {w : Nat} (hw : 4 ≤ w) : ∀ d ∈ row6 (fun i => val3 (2 ^ w) (mirD ring i)), 0 ≤ d ∧ d < 2 ^ (w * 3) := by
  intro d hd
  have key : ∀ i, i < 6 → 0 ≤ val3 (2 ^ w) (mirD ring i) ∧ val3 (2 ^ w) (mirD ring i) < 2 ^ (w * 3) := fun i hi => by
    have hp : ∀ d ∈ piece ring i, 0 ≤ d ∧ d < 2 ^ w := by
      intro d hd
      obtain ⟨a, b, c⟩ := h9 (5 - i) (by omega)
      have h16 : (16 : Int) ≤ 2 ^ w := by
        have := pow_le (show 4 ≤ w from hw)
        rw [show (2 : Int) ^ 4 = 16 by decide] at this
        exact this
      have hd9 : 0 ≤ d ∧ d ≤ 9 := by
        simp only [piece, mirD, List.mem_cons, List.not_mem_nil, or_false] at hd
        rcases hd with rfl | rfl | rfl <;> assumption
      omega
    have := dnum_rng hp
    rw [piece_dnum] at this
    exact this
  simp only [row6, List.mem_cons, List.not_mem_nil, or_false] at hd
  rcases hd with rfl | rfl | rfl | rfl | rfl | rfl <;> exact key _ (by decide)
local macro_rules | `(tactic| k_mem) => `(tactic| first | assumption | (apply List.Mem.tail; k_mem))
local macro_rules | `(tactic| k_all) => `(tactic| first | assumption | (refine allNe_lt (by assumption) ?_; show @LE.le Nat _ _ _; omega))
local macro_rules | `(tactic| walk_at "call ref") => `(tactic| (k_here; refine Stop.mk ?_))
local macro_rules | `(tactic| walk_at "pyIter ref") => `(tactic| (k_here; refine Stop.mk ?_))
local macro_rules | `(tactic| walk_at "exec For Name Name cons nil") => `(tactic| (k_here; refine Stop.mk ?_))
local macro_rules | `(tactic| walk_at "exec For Name Call cons nil") => `(tactic| (k_here; refine Stop.mk ?_))
local macro_rules | `(tactic| walk_at "subscriptTail") => `(tactic| (k_here; (with_reducible show wpAny _ _ (subscriptTail _ _ (Value.bytes _ _) _) _ _ _); refine Stop.mk ?_))
local macro_rules | `(tactic| walk_at "call type:list") => `(tactic| (k_here; refine Stop.mk ?_))
local macro_rules | `(tactic| walk_at "call builtin:list.append") => `(tactic| (k_here; refine Stop.mk ?_))
local macro_rules | `(tactic| walk_at "binaryOp Pow int int") => `(tactic| (k_here; refine Stop.mk ?_))
noncomputable def facsL (B : Int) : List Int := [1, 1 + B ^ 2, B ^ 2, B + B ^ 2, B, 1 + B]
theorem facs_at {k : Nat} (hk : k < 6) {B : Int} : (facsL B).getD k 0 = fact k B := by
  have : k = 0 ∨ k = 1 ∨ k = 2 ∨ k = 3 ∨ k = 4 ∨ k = 5 := by omega
  rcases this with rfl | rfl | rfl | rfl | rfl | rfl <;> rfl
theorem with_obj1 {h₀ h : Heap} {L d1 : Addr} {o1 : Obj} {T : Led} {G : Prop} (_ : News h₀ L h ((d1, o1) :: T)) (k : ∀ a o, a = d1 → o = o1 → G) : G := k _ _ rfl rfl
theorem int_at {vs : List Value} {ns : List Int} (h : IntsAre vs ns) {i : Nat} (hi : i < ns.length) : ∃ t, vs[i]? = some (.int (ns.getD i 0) t) := by
  have hv : i < vs.length := by rw [h.length]; exact hi
  obtain ⟨t, e⟩ := h.int_at i _ (List.getElem?_eq_getElem hv)
  exact ⟨t, by rw [List.getElem?_eq_getElem hv, e]⟩
theorem wholeL_snoc (B W : Int) (L : List Nat) (k : Nat) (x : Int) : wholeL B W (L ++ [k]) x = wholeL B W L x * (1 + fact k B * W) := by
  unfold wholeL
  rw [List.foldl_append]
  rfl
theorem mul_lt3 {a b : Int} {k j : Nat} (ha : 0 ≤ a ∧ a < 2 ^ k) (hb : 0 ≤ b ∧ b < 2 ^ j) : 0 ≤ a * b ∧ a * b < 2 ^ (k + j) := by
  refine ⟨Int.mul_nonneg ha.1 hb.1, ?_⟩
  rw [Int.pow_add]
  have h1 : a * b ≤ a * 2 ^ j := Int.mul_le_mul_of_nonneg_left (by omega) ha.1
  have h2 : a * 2 ^ j < 2 ^ k * 2 ^ j := Int.mul_lt_mul_of_pos_right ha.2 pow_pos2
  omega
theorem fact_rng {k n : Nat} (hk : k < 6) (hn : 15 ≤ n ∧ n < 23) : 0 ≤ fact k (2 ^ n) ∧ fact k (2 ^ n) < 2 ^ 46 := by
  have h1 : (2 : Int) ^ n ≤ 2 ^ 22 := pow_le (by omega)
  have h0 : (0 : Int) < 2 ^ n := pow_pos2
  have h2 : ((2 : Int) ^ n) ^ 2 ≤ 2 ^ 44 := by
    rw [← Int.pow_mul]
    exact pow_le (by omega)
  have h3 : (0 : Int) < ((2 : Int) ^ n) ^ 2 := Int.pow_pos h0
  generalize (2 : Int) ^ n = B at *
  have h6 : k = 0 ∨ k = 1 ∨ k = 2 ∨ k = 3 ∨ k = 4 ∨ k = 5 := by omega
  rcases h6 with rfl | rfl | rfl | rfl | rfl | rfl <;> simp only [fact] <;> (generalize B ^ 2 = C at *) <;> omega
theorem term_rng {f : Int} {n : Nat} (hf : 0 ≤ f ∧ f < 2 ^ 46) (hn : n < 23) : 0 ≤ 1 + f * 2 ^ (11 * n) ∧ 1 + f * 2 ^ (11 * n) < 2 ^ 300 := by
  have h1 : (0 : Int) ≤ 2 ^ (11 * n) ∧ (2 : Int) ^ (11 * n) < 2 ^ 250 := pow2_lt (by omega)
  have h2 := mul_lt3 hf h1
  have h3 : (2 : Int) ^ (46 + 250) < 2 ^ 300 := (pow2_lt (by decide)).2
  omega
theorem whole_rng {wh : Int} {n : Nat} (hn : 15 ≤ n ∧ n < 23) {L : List Nat} (hL : ∀ k ∈ L, k < 6) (hw : 0 ≤ wh ∧ wh < 2 ^ 1500) : ∀ i, 0 ≤ wholeL (2 ^ n) (2 ^ (11 * n)) (L.take i) wh ∧ wholeL (2 ^ n) (2 ^ (11 * n)) (L.take i) wh < 2 ^ (1500 + 300 * i)
  | 0 => by rw [List.take_zero]; exact hw
  | i + 1 => by
    have ih := whole_rng hn hL hw i
    cases e : L[i]? with
    | none =>
      rw [List.take_add_one, e, Option.toList_none, List.append_nil]
      exact lt2_mono ih (by omega)
    | some k =>
      rw [take_snoc e, wholeL_snoc]
      have := mul_lt3 ih (term_rng (fact_rng (hL k (List.mem_of_getElem? e)) hn) hn.2)
      rw [show 1500 + 300 * (i + 1) = 1500 + 300 * i + 300 by omega]
      exact this
theorem wh_rng {rows : List Int} {n : Nat} (hl : rows.length = 6) (hr : ∀ d ∈ rows, 0 ≤ d ∧ d < 2 ^ (n * 3)) (hn : n < 23) : 0 ≤ dnum (11 * n) rows ∧ dnum (11 * n) rows < 2 ^ 1500 := by
  have := dnum_rng (n := 11 * n) (ds := rows) fun d hd => lt2_mono (hr d hd) (by omega)
  rw [hl] at this
  exact lt2_mono this (by omega)
local macro_rules | `(tactic| walk_at "binaryOp Mult int int") => `(tactic| (k_here; refine Stop.mk ?_))
local macro_rules | `(tactic| walk_at "subscriptTail Name Name ref int") => `(tactic| (k_here; refine Stop.mk ?_))
theorem with_ints {vs : List Value} {ns : List Int} {G : Prop} (_ : IntsAre vs ns) (k : ∀ v, v = vs → G) : G := k _ rfl
theorem RowsIn.app {T : Led} {vs ws : List Value} {xs ys : List (List Int)} (h : RowsIn T vs xs) (k : RowsIn T ws ys) : RowsIn T (vs ++ ws) (xs ++ ys) := by
  induction h with
  | nil => exact k
  | cons a _ ih => exact .cons a ih
theorem RowsIn.reverse {T : Led} {vs : List Value} {xs : List (List Int)} (h : RowsIn T vs xs) : RowsIn T vs.reverse xs.reverse := by
  induction h with
  | nil => exact .nil
  | cons a _ ih =>
    rw [List.reverse_cons, List.reverse_cons]
    exact ih.app (.cons a .nil)
noncomputable def numF (w : Nat) (x : Int) : List Int := (digs w 3 (x % ((2 ^ w) ^ 3 - 1))).reverse
inductive bydPost (rows : List (List Int)) (R : Led) (v : Value) (T' : Led) : Prop
  | mk (D : Addr) (ws : List Value) (k : Nat) (W Tb' : Led) (e1 : v = .ref D) (e2 : T' = (D, listOf (List.toArray ws) k) :: (W ++ (R ++ Tb'))) (e3 : RowsIn W ws rows) (e4 : Cl W) (e5 : Tabs 44 37 Tb') : bydPost rows R v T'
set_option maxHeartbeats 8000000 in
theorem bydiv_spec (w : World) (loose mean mg mb) (R Tb : Led) (hT : Tabs 44 37 Tb) (hC : Cl R) (x : Array UInt8) (DL : Addr) (kl : Nat) (tv : List Value) (L : List Nat) (n : Int) (t1 t3 : Tok) (ring : List (List Int))
    (hx : PySem.W.KBw.bInts x = octL ring) (h9 : Nine ring) (hLm : (DL, listOf tv.toArray kl) ∈ R) (hLi : IntsAre tv (L.map fun (k : Nat) => (k : Int))) (hL6 : ∀ k ∈ L, k < 6) (hLl : L.length = 5) (hn : 15 ≤ n ∧ n < 23) :
   SpecT PySem.Challenge.pw_wf0044_02 w (Mine.hd.heap_39 w.params) topProg loose mean mg mb 350 2600 120 [.bytes x t1, .ref DL, .int n t3] (R ++ Tb) (bydPost (figsOf n.toNat (wholeL (2 ^ n.toNat) (2 ^ (11 * n.toNat)) L (dnum (11 * n.toNat) (row6 fun i => val3 (2 ^ n.toNat) (mirD ring i))))) R) := by
  unfold SpecT
  intro dp un gd cn cs a ccd cl outer A₀ base h₀ L0 m s0 Q E B F X N Tp hk hd hu hret
  refine wpAny_call ?_
  have hk0 : (PySem.Challenge.rw_wf0044_02 = PySem.Challenge.rw_wf0044_02 ∧ Mine.hd.heap_39 = Mine.hd.heap_39) := by (k_fill; exact ⟨rfl, rfl⟩)
  clear hk0
  have hxs : x.size = 18 := by rw [bInts_size hx, octL_len]
  have hB64 : ((2 : Int) ^ n.toNat).natAbs < 2 ^ 64 := abs_lt (pow2_lt (show n.toNat < 64 by omega))
  have htl : tv.length = 5 := by rw [hLi.length, List.length_map, hLl]
  k_dflt ktr_enter
  k_steps
  refine Stop.in ?_
  first | (refine pow_int_small (by omega) (by omega) (by first | decide | assumption) ?_) | fail
  k_steps
  refine Stop.in ?_
  first | (k_dflt (refine For_J (by k_asm) (by rfl) (by rfl) ?_ (by with_unfolding_all passes_own))) | fail
  k_steps
  refine Stop.in ?_
  (rename News _ _ _ _ => Nn)
  replace Nn := news_tail Nn
  (rename Fr _ _ _ _ => FF)
  refine with_fr FF fun m0 hm0 F0 => ?_
  refine name1 Nn fun Df hDf => ?_
  subst hDf
  have hRf : ∀ p ∈ R ++ Tb, p.1 ≠ Df := fun p hp => Nat.ne_of_lt (‹∀ p ∈ R ++ Tb, p.1 < Df› p hp)
  refine iter_rangeN (n := 6) (J := fun i m led => ∃ u ws k Tb', m = mapD [Str.ofString "at"] u m0 ∧ led = (Df, listOf (List.toArray ws) k) :: (R ++ Tb') ∧ IntsAre ws ((List.range i).map fun (j : Nat) => val3 (2 ^ n.toNat) (mirD ring j)) ∧ Tabs 44 37 Tb' ∧ (∀ p ∈ R ++ Tb', p.1 ≠ Df))
     rfl (by assumption) (by decide +kernel) (by decide +kernel) F0 Nn ?_ ?_ ?_
  · subst hm0
    exact ⟨_, [], 0, Tb, mapD_self, rfl, .nil, hT, hRf⟩
  · subst hm0
    intro I i t' m1 led h tk it hi hp'1 hoI _ hic FT NT
    refine absQE ?_
    intro Qa Ea hQa
    refine Classical.byContradiction fun hG' => ?_
    obtain ⟨u, ws, k, Tb', rfl, rfl, hws, hT', hne⟩ := hp'1
    refine hG' ?_
    clear hG'
    k_steps
    refine Stop.in ?_
    rename Fr _ _ _ _ => FS
    rename News _ _ _ _ => NS
    refine PySem.W.KBc.slice_K (s := ⟨_, _, _, _, _⟩) FS NS hx (by constructor) (by constructor) (by rw [octL_len]; decide) ?_
    intro h6 t6 tk6 F6 N6 e6
    have e6' := e6.trans (cut_piece ring hi)
    clear e6
    generalize KBy.picked x (some (0 + (i : Int) * 3)) (some (0 + (i : Int) * 3 + 3)) = pk at *
    have hpk : pk.size = 3 := by rw [bInts_size e6']; rfl
    have hwl : ws.length < 1000000 := by rw [hws.length, List.length_map, List.length_range]; omega
    have n2 : @Ne Nat I Df := Ne.symm (hoI (Df, _) (.head _))
    k_steps
    refine Stop.in ?_
    refine list_bytes rfl (by k_asm) (by k_asm) (by rw [hpk]; decide) ?_
    intro D7 us7 c7 h7 tk7 F7 N7 l7 i7
    rw [e6'] at i7
    k_steps
    refine Stop.in ?_
    k_dflt (refine' specT_useQ (d2i_spec w loose mean mg mb ((D7, listOf (List.toArray us7) c7) :: (I, it) :: (Df, listOf (List.toArray ws) k) :: R) Tb' hT' (Cl.cons (by simp) (Cl.cons (iterN hic) (Cl.cons (by simp) hC))) D7 us7 (piece ring i) c7 n _ (.head _) i7 (show 3 < 200 by decide) ⟨by omega, by omega⟩ (piece_small h9 hi)) ?k1 ?k2 ?k3 ?k4 ?k5 ?kK ?ks ?kd ?ku ?_; (case k1 => k_asm); (case k2 => k_asm); (case k3 => k_asm); (case k4 => k_asm); (case k5 => k_asm); (case kK => exact rfl); (case ks => exact fun _ h => h))
    case kd => ktr_room
    case ku => ktr_units
    rintro Q' hQ' rv8 T8 h8 tk8 F8 N8 ⟨⟨u8, rfl⟩, Tb8, rfl, hT8⟩
    refine hQ' _ _ _ ?_
    clear hQ' Q'
    replace N8 : News _ _ _ ((I, it) :: (Df, listOf (List.toArray ws) k) :: (R ++ Tb8)) := news_tail N8
    have h8f : ∀ p ∈ Tb8, p.1 ≠ Df := tabs_ne hT8 N8 (fun p hp => .tail _ (.tail _ (List.mem_append_right _ hp))) (.tail _ (.head _))
    have h8i : ∀ p ∈ Tb8, p.1 ≠ I := tabs_neN hT8 N8 (fun p hp => .tail _ (.tail _ (List.mem_append_right _ hp))) (.head _) (iterN hic) hic.2
    have hW8 : ∀ p ∈ R ++ Tb8, p.1 ≠ Df := fun p hp => (List.mem_append.mp hp).elim (fun h => hne p (List.mem_append_left _ h)) (h8f p)
    have hI8 : ∀ p ∈ R ++ Tb8, p.1 ≠ I := fun p hp => (List.mem_append.mp hp).elim (fun h => hoI p (.tail _ (List.mem_append_left _ h))) (h8i p)
    rw [piece_dnum]
    k_steps
    refine Stop.in ?_
    first | ((with_reducible show wpAny _ _ (call (Value.builtin _) [Value.ref _, _]) _ _ _); k_dflt (refine' append_lK ?y16k1 ?y16k2 ?y16k3 ?y16k4 ?_; (case y16k1 => k_asm); (case y16k2 => k_asm); (case y16k3 => k_upd); (case y16k4 => assumption); k_whole); intro h' F' N'; (try k_sweep)) | fail
    k_steps
    rename Fr _ _ _ _ => FZ
    rename News _ _ _ _ => NZ
    refine hQa _ _ ?_
    refine TurnJ.fin FZ NZ ((Df, listOf (List.toArray (ws ++ [Value.int (val3 (2 ^ n.toNat) (mirD ring i)) u8])) (k + 1)) :: (R ++ Tb8)) (fun _ h => h) ?_ ⟨_, _, _, Tb8, mapD_of (by repeat (first | exact map_base | refine map_peel (by decide) ?_)), rfl, ?_, hT8, hW8⟩
    · intro p hp
      rcases List.mem_cons.mp hp with rfl | hp
      · exact Ne.symm n2
      · exact hI8 p hp
    · rw [List.range_succ, List.map_append]
      exact hws.append (.cons _ _ .nil)
  · subst hm0
    intro m1 led h tk hp'1 FT NT
    refine Classical.byContradiction fun hG' => ?_
    obtain ⟨u, ws, k, Tb', rfl, rfl, hws, hT', hne⟩ := hp'1
    obtain ⟨rows, hrows⟩ : ∃ rows, rows = row6 fun i => val3 (2 ^ n.toNat) (mirD ring i) := ⟨_, rfl⟩
    refine hG' ?_
    clear hG'
    replace hws : IntsAre ws rows := by rw [hrows]; exact hws
    have hrl : rows.length = 6 := by rw [hrows]; rfl
    have hrs : ∀ d ∈ rows, 0 ≤ d ∧ d < 2 ^ (n.toNat * 3) := by rw [hrows]; exact row_rng h9 (by omega)
    have hN : (11 * n).toNat = 11 * n.toNat := by omega
    k_steps
    refine Stop.in ?_
    first | (first | refine mul_K (by with_reducible assumption) (by with_reducible assumption) ?_ | refine mul_K (small_int (by omega)) (small_int (by omega)) ?_) | fail
    k_steps
    refine Stop.in ?_
    k_dflt (refine' specT_useQ (d2i_spec w loose mean mg mb ((Df, listOf (List.toArray ws) k) :: R) Tb' hT' (Cl.cons (by simp) hC) Df ws rows k (11 * n) _ (.head _) hws (by omega) ⟨by omega, by omega⟩ (fun d hd => Nat.lt_of_lt_of_le (abs_lt (hrs d hd)) (Nat.pow_le_pow_right (by decide) (by omega)))) ?k1 ?k2 ?k3 ?k4 ?k5 ?kK ?ks ?kd ?ku ?_; (case k1 => k_asm); (case k2 => k_asm); (case k3 => k_asm); (case k4 => k_asm); (case k5 => k_asm); (case kK => exact rfl); (case ks => exact fun _ h => h))
    case kd => ktr_room
    case ku => ktr_units
    rintro Q' hQ' rv9 T9 h9' tk9 F9 N9 ⟨⟨u9, rfl⟩, Tb9, rfl, hT9⟩
    refine hQ' _ _ _ ?_
    clear hQ' Q'
    rw [hN]
    obtain ⟨wh, hwh⟩ : ∃ wh, wh = dnum (11 * n.toNat) rows := ⟨_, rfl⟩
    rw [← hwh]
    replace N9 : News _ _ _ (R ++ Tb9) := news_tail N9
    k_steps
    refine Stop.in ?_
    first | (refine pow_int_small (by omega) (by omega) (by first | decide | assumption) ?_) | fail
    k_steps
    refine Stop.in ?_
    first | (refine pow_int_small (by omega) (by omega) (by first | decide | assumption) ?_) | fail
    k_steps
    refine Stop.in ?_
    first | (refine pow_int_small (by omega) (by omega) (by first | decide | assumption) ?_) | fail
    k_steps
    refine Stop.in ?_
    first | (k_dflt (refine For_J (by k_asm) (by rfl) (by rfl) ?_ (by with_unfolding_all passes_own))) | fail
    k_steps
    refine Stop.in ?_
    (rename News _ _ _ _ => Nn2)
    (rename Fr _ _ _ _ => FF2)
    refine with_fr FF2 fun m2 hm2 F2 => ?_
    refine with_obj1 Nn2 fun Dx ox hDx hox => ?_
    have hfac : ∃ fv, ox = listOf (List.toArray fv) 0 ∧ IntsAre fv (facsL (2 ^ n.toNat)) := ⟨_, hox, .cons _ _ (.cons _ _ (.cons _ _ (.cons _ _ (.cons _ _ (.cons _ _ .nil)))))⟩
    subst hDx
    rw [← hox] at Nn2
    clear hox
    obtain ⟨fv, rfl, hfi⟩ := hfac
    have hwr := whole_rng (wh := wh) (n := n.toNat) ⟨by omega, by omega⟩ hL6 (by rw [hwh]; exact wh_rng hrl hrs (by omega))
    refine iter_listJ (J := fun i m led => ∃ u tt, m = (fun z => if z = Str.ofString "whole" then some (.int (wholeL (2 ^ n.toNat) (2 ^ (11 * n.toNat)) (L.take i) wh) tt) else mapD [Str.ofString "whole", Str.ofString "sixths"] u m2 z) ∧ led = (Dx, listOf (List.toArray fv) 0) :: (R ++ Tb9))
       rfl (.tail _ (List.mem_append_left _ hLm)) ?_ F2 Nn2 ?_ ?_ ?_
    · intro i m led hp'1
      refine Classical.byContradiction fun hG' => ?_
      obtain ⟨u, tt, rfl, rfl⟩ := hp'1
      refine hG' ?_
      clear hG'
      exact .tail _ (List.mem_append_left _ hLm)
    · subst hm2
      exact ⟨_, _, map_one (by rfl) map_self, rfl⟩
    · subst hm2
      intro I i v m3 led3 h3 tk3 it3 hv hp'1 hoI3 _ hic3 FT3 NT3
      refine absQE ?_
      intro Qa Ea hQa
      refine Classical.byContradiction fun hG' => ?_
      obtain ⟨u3, tt3, rfl, rfl⟩ := hp'1
      obtain ⟨c, tc, rfl, hci⟩ := IntsAre.at hLi i v hv
      refine hG' ?_
      clear hG'
      rw [List.getElem?_map] at hci
      obtain ⟨k3, hki, rfl⟩ := Option.map_eq_some_iff.mp hci
      have hk6 := hL6 k3 (List.mem_of_getElem? hki)
      have hwi := hwr i
      have hfr := fact_rng (n := n.toNat) hk6 ⟨by omega, by omega⟩
      have hnx : wholeL (2 ^ n.toNat) (2 ^ (11 * n.toNat)) (L.take (i + 1)) wh = wholeL (2 ^ n.toNat) (2 ^ (11 * n.toNat)) (L.take i) wh * (1 + fact k3 (2 ^ n.toNat) * 2 ^ (11 * n.toNat)) := by rw [take_snoc hki, wholeL_snoc]
      obtain ⟨tf, hzf⟩ := int_at hfi (i := ((k3 : Nat) : Int).toNat) (by rw [Int.toNat_natCast]; exact hk6)
      rw [Int.toNat_natCast, facs_at hk6] at hzf
      have hi5 : i < 5 := by rw [← hLl]; exact (List.getElem?_eq_some_iff.mp hki).1
      generalize fact k3 (2 ^ n.toNat) = fk at *
      generalize wholeL (2 ^ n.toNat) (2 ^ (11 * n.toNat)) (L.take i) wh = wi at *
      have sm1 : Small (2 ^ (11 * n).toNat) := by rw [hN]; exact small2 (k := 300) (pow2_lt (by omega)) (by decide)
      have sm2 : Small fk := small2 hfr (by decide)
      have sm3 : Small (1 + fk * 2 ^ (11 * n).toNat) := by rw [hN]; exact small2 (term_rng hfr (by omega)) (by decide)
      have sm4 : Small wi := small2 hwi (by omega)
      k_steps
      refine Stop.in ?_
      refine item_lK (by k_asm) (k := 0) (vs := fv) (.tail _ (.head _)) ⟨by omega, by omega⟩ (by rw [Int.toNat_natCast]; exact hzf) ?_
      k_steps
      refine Stop.in ?_
      first | (first | refine mul_K (by with_reducible assumption) (by with_reducible assumption) ?_ | refine mul_K (small_int (by omega)) (small_int (by omega)) ?_) | fail
      k_steps
      refine Stop.in ?_
      first | (refine pow_int_small (by omega) (by omega) (by first | decide | assumption) ?_) | fail
      k_steps
      refine Stop.in ?_
      first | (first | refine mul_K (by with_reducible assumption) (by with_reducible assumption) ?_ | refine mul_K (small_int (by omega)) (small_int (by omega)) ?_) | fail
      k_steps
      refine Stop.in ?_
      first | (first | refine mul_K (by with_reducible assumption) (by with_reducible assumption) ?_ | refine mul_K (small_int (by omega)) (small_int (by omega)) ?_) | fail
      k_steps
      rename Fr _ _ _ _ => FZ
      rename News _ _ _ _ => NZ
      refine hQa _ _ ?_
      exact TurnJ.fin0 FZ NZ hoI3 ⟨_, _, map_one (by rw [hnx, ← hN]; rfl) (by repeat (first | exact map_base | refine map_peel (by decide) ?_)), rfl⟩
    · subst hm2
      intro m3 led3 h3 tk3 hp'1 FT3 NT3
      refine Classical.byContradiction fun hG' => ?_
      obtain ⟨u3, tt3, rfl, rfl⟩ := hp'1
      refine hG' ?_
      clear hG'
      rw [htl, ← hLl, List.take_length] at FT3
      have hwF := hwr 5
      rw [← hLl, List.take_length, hLl] at hwF
      obtain ⟨wF, hwFe⟩ : ∃ wF, wF = wholeL (2 ^ n.toNat) (2 ^ (11 * n.toNat)) L wh := ⟨_, rfl⟩
      rw [← hwFe] at FT3 hwF
      replace NT3 := news_tail NT3
      have h66 : (66 * n).toNat = 66 * n.toNat := by omega
      have hy0 : (0 : Int) < 2 ^ (66 * n).toNat - 1 := pow1_pos (by omega)
      have hysm : (2 ^ (66 * n).toNat - 1 : Int).natAbs < 2 ^ 2000 := pow1_abs (by omega)
      have hkf : figs (Builtin.Int.intBits (2 ^ (66 * n).toNat - 1)) wF < 200 := by
        rw [bits_pow1 (by omega)]
        exact Nat.lt_of_le_of_lt (figs_small (m := 4) (by omega) (Nat.lt_of_lt_of_le (abs_lt hwF) (Nat.pow_le_pow_right (by decide) (by omega)))) (by decide)
      k_steps
      refine Stop.in ?_
      first | (first | refine mul_K (by with_reducible assumption) (by with_reducible assumption) ?_ | refine mul_K (small_int (by omega)) (small_int (by omega)) ?_) | fail
      k_steps
      refine Stop.in ?_
      first | (refine pow_int_small (by omega) (by omega) (by first | decide | assumption) ?_) | fail
      k_steps
      refine Stop.in ?_
      k_dflt (refine' specT_useQ (idm_spec w loose mean mg mb R Tb9 hT9 hC wF _ _ _ hwF.1 hy0 hysm hkf) ?k1 ?k2 ?k3 ?k4 ?k5 ?kK ?ks ?kd ?ku ?_; (case k1 => k_asm); (case k2 => k_asm); (case k3 => k_asm); (case k4 => k_asm); (case k5 => k_asm); (case kK => exact rfl); (case ks => exact fun _ h => h))
      case kd => ktr_room
      case ku => ktr_units
      rintro Q' hQ' rv6 T6 h6 tk6 F6 N6 ⟨D6, u61, u62, Tb6, rfl, l6, rfl, hT6⟩
      refine hQ' _ _ _ ?_
      clear hQ' Q'
      (try dsimp only at F6 N6)
      obtain ⟨re, hre⟩ : ∃ re, re = wF % (2 ^ (66 * n).toNat - 1) := ⟨_, rfl⟩
      simp only [← hre] at N6
      have hrr : 0 ≤ re ∧ re < 2 ^ (11 * n.toNat * 6) := by
        rw [hre]
        have := rem_pow1 (x := wF) (a := (66 * n).toNat) (by omega)
        rw [h66, show 66 * n.toNat = 11 * n.toNat * 6 by omega] at this
        rw [h66, show 66 * n.toNat = 11 * n.toNat * 6 by omega]
        exact this
      k_steps
      refine Stop.in ?_
      first | (k_dflt (refine For_J (by k_asm) (by rfl) (by rfl) ?_ (by with_unfolding_all passes_own))) | fail
      k_steps
      refine Stop.in ?_
      first | (first | refine mul_K (by with_reducible assumption) (by with_reducible assumption) ?_ | refine mul_K (small_int (by omega)) (small_int (by omega)) ?_) | fail
      k_steps
      refine Stop.in ?_
      rename News _ _ _ _ => NA
      have NB := news_hd (news_tail NA) (fun q hq => List.Mem.tail _ hq)
      clear NA
      refine name1 NB fun Dr hDr => ?_
      subst hDr
      have hRr : ∀ p ∈ R ++ Tb6, p.1 ≠ Dr := by
        rename D6 < Dr ∧ AllLt Dr (R ++ Tb6) => lr
        exact allLt_neOf lr.2
      k_dflt (refine' specT_useQ (figuresN_spec w loose mean mg mb ((Dr, listOf #[] 0) :: R) Tb6 hT6 (Cl.cons (by simp) hC) re (11 * n) 6 _ _ _ ⟨by omega, by omega⟩ (by decide) hrr.1 (by rw [hN]; exact hrr.2)) ?k1 ?k2 ?k3 ?k4 ?k5 ?kK ?ks ?kd ?ku ?_; (case k1 => k_asm); (case k2 => k_asm); (case k3 => k_asm); (case k4 => k_asm); (case k5 => k_asm); (case kK => exact rfl); (case ks => exact fun _ h => h))
      case kd => ktr_room
      case ku => ktr_units
      rintro Q' hQ' rv8 T8 h8 tk8 F8 N8 ⟨D8, vs8, k8, Tb8, rfl, hi8, ne8, rfl, hT8⟩
      refine hQ' _ _ _ ?_
      clear hQ' Q'
      rw [hN] at hi8
      obtain ⟨nums, hnums⟩ : ∃ nums, nums = digs (11 * n.toNat) 6 re := ⟨_, rfl⟩
      rw [← hnums] at hi8
      have hnl : nums.length = 6 := by rw [hnums, digs_len]
      have hnr : ∀ d ∈ nums, 0 ≤ d ∧ d < 2 ^ (11 * n.toNat) := by rw [hnums]; exact digs_rng _ _
      have h8l : vs8.length = 6 := by rw [hi8.length, hnl]
      have hfg : figsOf n.toNat (wholeL (2 ^ n.toNat) (2 ^ (11 * n.toNat)) L (dnum (11 * n.toNat) (row6 fun i => val3 (2 ^ n.toNat) (mirD ring i)))) = (nums.map (numF n.toNat)).reverse := by
        rw [hnums, hre, hwFe, hwh, hrows, h66]
        rfl
      have e3 : ((2 : Int) ^ n.toNat) ^ (3 : Int).toNat = 2 ^ (n.toNat * 3) := by rw [← Int.pow_mul]; rfl
      have hq0 : (0 : Int) < (2 ^ n.toNat) ^ (3 : Int).toNat - 1 := by rw [e3]; exact pow1_pos (by omega)
      have hqs : (((2 : Int) ^ n.toNat) ^ (3 : Int).toNat - 1 : Int).natAbs < 2 ^ 2000 := by rw [e3]; exact pow1_abs (by omega)
      have hqb : Builtin.Int.intBits (((2 : Int) ^ n.toNat) ^ (3 : Int).toNat - 1) = n.toNat * 3 := by rw [e3]; exact bits_pow1 (by omega)
      have hD8r : @Ne Nat D8 Dr := Ne.symm (ne8 (Dr, _) (.head _))
      have hT8r : ∀ p ∈ Tb8, p.1 ≠ Dr := tabs_ne hT8 N8 (fun p hp => .tail _ (List.mem_append_right _ hp)) (.tail _ (.head _))
      replace N8 : News _ _ _ ((Dr, listOf (List.toArray []) 0) :: (([] ++ (D8, listOf vs8.toArray k8) :: R) ++ Tb8)) := fun p hp => N8 p (by
        simp only [List.mem_cons, List.mem_append, List.nil_append] at hp ⊢
        rcases hp with hp | (hp | hp) | hp <;> simp [hp])
      k_steps
      refine Stop.in ?_
      (rename Fr _ _ _ _ => FF3)
      refine with_fr FF3 fun m4 hm4 F4 => ?_
      refine iter_listN (J := fun i m led => ∃ u ws k W Tb', m = mapD [Str.ofString "number", Str.ofString "left"] u m4 ∧ led = (Dr, listOf (List.toArray ws) k) :: ((W ++ (D8, listOf vs8.toArray k8) :: R) ++ Tb') ∧ ws.length = i ∧ RowsIn W ws ((nums.take i).map (numF n.toNat)) ∧ Cl W ∧ Tabs 44 37 Tb' ∧ (∀ p ∈ (W ++ (D8, listOf vs8.toArray k8) :: R) ++ Tb', p.1 ≠ Dr))
         rfl (.tail _ (List.mem_append_left _ (.head _))) ?_ F4 N8 ?_ ?_ ?_
      · intro i m led hp'1
        refine Classical.byContradiction fun hG' => ?_
        obtain ⟨u, ws, k, W, Tb', rfl, rfl, _⟩ := hp'1
        refine hG' ?_
        clear hG'
        exact .tail _ (List.mem_append_left _ (List.mem_append_right _ (.head _)))
      · subst hm4
        refine ⟨_, [], 0, [], Tb8, mapD_self, rfl, rfl, .nil, Cl.nil, hT8, fun p hp => ?_⟩
        rcases List.mem_append.mp hp with hp | hp
        · rcases List.mem_cons.mp hp with rfl | hp
          · exact hD8r
          · exact hRr p (List.mem_append_left _ hp)
        · exact hT8r p hp
      · subst hm4
        intro I i v m5 led5 h5 tk5 it5 hv hp'1 hoI5 _ hic5 FT5 NT5
        refine absQE ?_
        intro Qa Ea hQa
        refine Classical.byContradiction fun hG' => ?_
        obtain ⟨u5, ws5, k5, W5, Tb5, rfl, rfl, hwl5, hrw5, hCW, hT5, hne5⟩ := hp'1
        obtain ⟨c, tc, rfl, hci⟩ := IntsAre.at hi8 i v hv
        refine hG' ?_
        clear hG'
        have hcr := hnr c (List.mem_of_getElem? hci)
        have hi6 : i < 6 := by rw [← hnl]; exact (List.getElem?_eq_some_iff.mp hci).1
        have hw56 : ws5.length < 1000000 := by omega
        have hkc : figs (Builtin.Int.intBits (((2 : Int) ^ n.toNat) ^ (3 : Int).toNat - 1)) c < 200 := by
          rw [hqb]
          exact Nat.lt_of_le_of_lt (figs_small (m := 4) (by omega) (Nat.lt_of_lt_of_le (abs_lt hcr) (Nat.pow_le_pow_right (by decide) (by omega)))) (by decide)
        have hC5 : Cl ((I, it5) :: (Dr, listOf (List.toArray ws5) k5) :: (W5 ++ (D8, listOf vs8.toArray k8) :: R)) := Cl.cons (iterN hic5) (Cl.cons (by simp) (Cl.append hCW (Cl.cons (by simp) hC)))
        k_steps
        refine Stop.in ?_
        first | (refine pow_int_small (by omega) (by omega) (by first | decide | assumption) ?_) | fail
        k_steps
        refine Stop.in ?_
        k_dflt (refine' specT_useQ (idm_spec w loose mean mg mb _ Tb5 hT5 hC5 c _ _ _ hcr.1 hq0 hqs hkc) ?k1 ?k2 ?k3 ?k4 ?k5 ?kK ?ks ?kd ?ku ?_; (case k1 => k_asm); (case k2 => k_asm); (case k3 => k_asm); (case k4 => k_asm); (case k5 => k_asm); (case kK => exact rfl); (case ks => exact fun _ h => h))
        case kd => ktr_room
        case ku => ktr_units
        rintro Q' hQ' rv6 T6 h6 tk6 F6 N6 ⟨D10, u61, u62, Tb10, rfl, l10, rfl, hT10⟩
        refine hQ' _ _ _ ?_
        clear hQ' Q'
        (try dsimp only at F6 N6)
        obtain ⟨lf, hlf⟩ : ∃ lf, lf = c % ((2 ^ n.toNat) ^ (3 : Int).toNat - 1) := ⟨_, rfl⟩
        simp only [← hlf] at N6
        have hlr : 0 ≤ lf ∧ lf < 2 ^ (n.toNat * 3) := by
          rw [hlf, e3]
          exact rem_pow1 (by omega)
        have hnF : numF n.toNat c = (digs n.toNat 3 lf).reverse := by rw [hlf]; exact rfl
        refine Classical.byContradiction fun hG' => ?_
        obtain ⟨R5, hR5⟩ : ∃ R5, R5 = (I, it5) :: (Dr, listOf (List.toArray ws5) k5) :: (W5 ++ (D8, listOf vs8.toArray k8) :: R) := ⟨_, rfl⟩
        refine hG' ?_
        clear hG'
        rw [← hR5] at N6
        rw [← hR5] at hC5
        -- CUT
        have hD5 : (Dr, listOf (List.toArray ws5) k5) ∈ R5 ++ Tb10 := by rw [hR5]; exact .tail _ (.head _)
        have hneX : ∀ p ∈ W5 ++ (D8, listOf vs8.toArray k8) :: R, p.1 ≠ Dr := fun p hp => hne5 p (List.mem_append_left _ hp)
        have hoX : ∀ p ∈ W5 ++ (D8, listOf vs8.toArray k8) :: R, p.1 ≠ I := fun p hp => hoI5 p (.tail _ (List.mem_append_left _ hp))
        have nI : @Ne Nat I Dr := Ne.symm (hoI5 (Dr, _) (.head _))
        k_steps
        refine Stop.in ?_
        rename News _ _ _ _ => NA
        k_dflt (refine' specT_useQ (figuresN_spec w loose mean mg mb R5 Tb10 hT10 hC5 lf n 3 _ _ _ ⟨by omega, by omega⟩ (by decide) hlr.1 hlr.2) ?k1 ?k2 ?k3 ?k4 ?k5 ?kK ?ks ?kd ?ku ?_; (case k1 => k_asm); (case k2 => k_asm); (case k3 => k_asm); (case k4 => k_asm); (case k5 => k_asm); (case kK => exact rfl); (case ks => exact fun _ h => List.Mem.tail _ h))
        case kd => ktr_room
        case ku => ktr_units
        rintro Q' hQ' rv7 T7 h7 tk7 F7 N7 ⟨D11, vs11, k11, Tb11, rfl, hi11, ne11, rfl, hT11⟩
        refine hQ' _ _ _ ?_
        clear hQ' Q'
        clear NA
        have h11l : vs11.length = 3 := by rw [hi11.length, digs_len]
        rw [hR5] at N7
        refine Classical.byContradiction fun hG' => ?_
        obtain ⟨X5, hX5⟩ : ∃ X5, X5 = W5 ++ (D8, listOf vs8.toArray k8) :: R := ⟨_, rfl⟩
        refine hG' ?_
        clear hG'
        rw [← hX5] at N7 hneX hoX
        have n11 : @Ne Nat D11 Dr := Ne.symm (ne11 (Dr, _) (by rw [hR5]; exact .tail _ (.head _)))
        have n11i : @Ne Nat D11 I := Ne.symm (ne11 (I, it5) (by rw [hR5]; exact .head _))
        have hTr : ∀ p ∈ Tb11, p.1 ≠ Dr := tabs_ne hT11 N7 (fun p hp => .tail _ (List.mem_append_right _ hp)) (.tail _ (.tail _ (.head _)))
        have hTi : ∀ p ∈ Tb11, p.1 ≠ I := tabs_neN hT11 N7 (fun p hp => .tail _ (List.mem_append_right _ hp)) (.tail _ (.head _)) (iterN hic5) hic5.2
        have hXr : ∀ p ∈ X5 ++ Tb11, p.1 ≠ Dr := fun p hp => (List.mem_append.mp hp).elim (hneX p) (hTr p)
        have hXi : ∀ p ∈ X5 ++ Tb11, p.1 ≠ I := fun p hp => (List.mem_append.mp hp).elim (hoX p) (hTi p)
        simp only [List.cons_append] at N7
        k_steps
        refine Stop.in ?_
        first | ((with_reducible show wpAny _ _ (call (Value.builtin _) [Value.ref _, _]) _ _ _); k_dflt (refine' append_lK ?y1k1 ?y1k2 ?y1k3 ?y1k4 ?_; (case y1k1 => k_asm); (case y1k2 => k_asm); (case y1k3 => k_upd); (case y1k4 => assumption); k_whole); intro h' F' N'; (try k_sweep)) | fail
        k_steps
        rename Fr _ _ _ _ => FZ
        rename News _ _ _ _ => NZ
        refine name1 NZ fun Dn hDn => ?_
        subst hDn
        rename D11 < Dn ∧ I < Dn ∧ Dr < Dn ∧ _ => lZ
        rename IntsAre _ (List.reverse _) => hrv
        refine with_ints hrv fun vn hvn => ?_
        subst hvn
        have nDr : @Ne Nat Dn Dr := Nat.ne_of_gt lZ.2.2.1
        have nDi : @Ne Nat Dn I := Nat.ne_of_gt lZ.2.1
        refine hQa _ _ ?_
        refine TurnJ.fin FZ NZ ((Dr, listOf (List.toArray (ws5 ++ [Value.ref Dn])) (k5 + 1)) :: (((Dn, listOf (List.toArray vn) 0) :: W5 ++ (D8, listOf vs8.toArray k8) :: R) ++ Tb11)) ?_ ?_ ⟨_, _, _, (Dn, listOf (List.toArray vn) 0) :: W5, Tb11, mapD_of (by repeat (first | exact map_base | refine map_peel (by decide) ?_)), rfl, by rw [List.length_append, hwl5]; rfl, ?_, Cl.cons (by simp) hCW, hT11, ?_⟩
        · intro q hq
          rw [List.cons_append, List.cons_append, ← hX5] at hq
          simp only [List.mem_cons] at hq ⊢
          rcases hq with hq | hq | hq | hq <;> simp [hq]
        · intro q hq
          rw [List.cons_append, List.cons_append, ← hX5] at hq
          rcases List.mem_cons.mp hq with rfl | hq
          · exact Ne.symm nI
          · rcases List.mem_cons.mp hq with rfl | hq
            · exact nDi
            · exact hXi q hq
        · rw [List.take_add_one, hci, Option.toList_some, List.map_append]
          refine (hrw5.mono fun _ h => .tail _ h).snoc ⟨Dn, vn, 0, rfl, .head _, ?_⟩
          rw [hnF]
          exact hrv
        · intro q hq
          rw [List.cons_append, List.cons_append, ← hX5] at hq
          rcases List.mem_cons.mp hq with rfl | hq
          · exact nDr
          · exact hXr q hq
      · subst hm4
        intro m5 led5 h5 tk5 hp'1 FT5 NT5
        refine Classical.byContradiction fun hG' => ?_
        obtain ⟨u5, ws5, k5, W5, Tb5, rfl, rfl, hwl5, hrw5, hCW, hT5, hne5⟩ := hp'1
        refine hG' ?_
        clear hG'
        k_steps
        rename Fr h₀ L0 _ _ => FZ
        rename News h₀ L0 _ _ => NZ
        rw [h8l, ← hnl, List.take_length] at hrw5
        have eR : slicePick ws5.toArray none none (some (-1)) = ws5.reverse.toArray := by rw [PySem.W.krv_pick]
        refine hret _ _ _ _ FZ (fun p hp => NZ p ?_) ⟨_, ws5.reverse, 0, W5, Tb5, rfl, rfl, ?_, hCW, hT5⟩
        · simp only [List.mem_cons, List.mem_append] at hp ⊢
          rcases hp with hp | hp | hp | hp <;> simp [hp, eR]
        · rw [hfg]
          exact hrw5.reverse
end Mine
end
section
open PySem PySem.W PyProof.Rows PySem.Calls
open PyProof.Rows.LCg
set_option maxRecDepth 100000
namespace Mine
local macro_rules | `(tactic| walk_at "exec While") => `(tactic| (k_here; refine Stop.mk ?_))
noncomputable def castL (l : List Nat) : List Int := l.map fun (k : Nat) => (k : Int)
theorem castL_erase (l : List Nat) (j : Nat) : (castL l).eraseIdx j = castL (l.eraseIdx j) := by
  unfold castL
  rw [List.eraseIdx_eq_take_drop_succ, List.eraseIdx_eq_take_drop_succ, List.map_append, List.map_take, List.map_drop]
theorem castL_len (l : List Nat) : (castL l).length = l.length := by unfold castL; simp
theorem cut_at : ∀ {l : List Value} {j : Nat} {y : Value}, l[j]? = some y → kl_cut l j = some (l.take j, y, l.drop (j + 1))
  | x :: r, 0, y, h => by
    simp only [List.getElem?_cons_zero, Option.some.injEq] at h
    subst h
    rfl
  | x :: r, j + 1, y, h => by
    have ih := cut_at (l := r) (j := j) (y := y) (by simpa using h)
    show (match kl_cut r j with | some (p, y, q) => some (x :: p, y, q) | none => none) = _
    rw [ih]
    rfl
theorem ints_erase {vs : List Value} {ns : List Int} (h : IntsAre vs ns) : ∀ j, IntsAre (vs.eraseIdx j) (ns.eraseIdx j) := by
  induction h with
  | nil => intro j; exact .nil
  | cons n t r ih =>
    intro j
    cases j with
    | zero => exact r
    | succ j => exact .cons n t (ih j)
section
variable {prog : Program} {w : World} {A : Around} {E : Value → Shared → Prop} {s : Shared} {h₀ : Heap} {L : Addr} {m : Str → Option Value} {news news' : Led}
theorem pop_K {D : Addr} {vs : List Value} {n : Nat} {l : List Nat} {i : Int} {u : Tok} {j : Nat} {Q : Value → Shared → Prop} (F : Fr h₀ L s.heap m) (N : News h₀ L s.heap news) (hi : IntsAre vs (castL l)) (hij : i = (j : Int)) (hj : j < l.length) (hl : l.length < 1000)
    (U : Upd D (listOf vs.toArray n) (listOf (vs.eraseIdx j).toArray (n + 1)) news news')
    (h : ∀ h' t, Fr h₀ L h' m → News h₀ L h' news' → IntsAre (vs.eraseIdx j) (castL (l.eraseIdx j)) → Q (.int ((l.getD j 0 : Nat) : Int) t) { s with heap := h' }) : wpAny (model prog w) A (call (.builtin "list.pop") [.ref D, .int i u]) Q E s := by
  subst hij
  have hvl : vs.length = l.length := by rw [hi.length, castL_len]
  have hjv : j < vs.length := by omega
  obtain ⟨t, ht⟩ := hi.int_at j _ (List.getElem?_eq_getElem hjv)
  have hg : (castL l).getD j 0 = ((l.getD j 0 : Nat) : Int) := by
    unfold castL
    rw [List.getD_eq_getElem?_getD, List.getElem?_map, List.getD_eq_getElem?_getD, List.getElem?_eq_getElem hj]
    rfl
  rw [hg] at ht
  have hv : vs[j]? = some (.int ((l.getD j 0 : Nat) : Int) t) := by rw [List.getElem?_eq_getElem hjv, ht]
  refine kl_popAt (its := vs.toArray) (n := n) (k := j) (p := vs.take j) (q := vs.drop (j + 1)) F N ?_ ?_ (cut_at hv) (by rw [← List.eraseIdx_eq_take_drop_succ]; exact U) ?_ fun h' F' N' => h h' t F' N' ?_
  · unfold Builtin.List.listFitsIndex
    simp only [Bool.and_eq_true, decide_eq_true_eq]
    omega
  · have h0 : ¬ ((j : Int) < 0) := by omega
    simp [seqIndex?, h0, hjv]
  · rw [sizeLine_eq]
    show vs.length ≤ _
    omega
  · rw [← castL_erase]
    exact ints_erase hi j
end
theorem truthy_lit {prog : Program} {w : World} {A : Around} {E : Value → Shared → Prop} {s : Shared} {h₀ : Heap} {L l : Addr} {news : Led} {vs : List Value} {k : Nat} {Q : Bool → Shared → Prop} (N : News h₀ L s.heap news) (hm : (l, listOf vs.toArray k) ∈ news) (hz : vs.length ≤ 1000000) (h : Q (!vs.isEmpty) { s with toks := s.toks + 1 + 1 }) : wpAny (model prog w) A (truthy (.ref l)) Q E s :=
  wpAny_truthy_list (items := vs.toArray) (PySem.IsL.isList (n := k) (N _ hm).1) (by rw [List.size_toArray]; omega) (by rw [List.isEmpty_toArray]; exact h)
theorem nd6 (x : Nat) : (x : Int).fdiv 6 = ((x / 6 : Nat) : Int) := by rw [Int.fdiv_eq_ediv_of_nonneg _ (by decide)]; rfl
theorem ints6 {t0 t1 t2 t3 t4 t5 : Tok} : IntsAre [.int 0 t0, .int 1 t1, .int 2 t2, .int 3 t3, .int 4 t4, .int 5 t5] (castL [0, 1, 2, 3, 4, 5]) := IntsAre.cons 0 _ (.cons 1 _ (.cons 2 _ (.cons 3 _ (.cons 4 _ (.cons 5 _ .nil)))))
theorem er_len {l : List Nat} {k : Nat} (h : l.length = k + 1) (i : Nat) : (l.eraseIdx (i % (k + 1))).length = k := by
  have : i % (k + 1) < l.length := by rw [h]; exact Nat.mod_lt _ (by omega)
  rw [List.length_eraseIdx_of_lt this, h]
  omega
inductive turnsPost (L : List Nat) (T : Led) (v : Value) (T' : Led) : Prop
  | mk (D : Addr) (ws : List Value) (k : Nat) (Wn : Led) (e1 : v = .ref D) (e2 : T' = (D, listOf (List.toArray ws) k) :: (Wn ++ T)) (e3 : IntsAre ws (castL L)) : turnsPost L T v T'
local macro_rules | `(tactic| k_mem) => `(tactic| first | assumption | (apply List.Mem.tail; k_mem))
local macro_rules | `(tactic| walk_at "truthy ref") => `(tactic| (k_here; refine Stop.mk ?_))
local macro_rules | `(tactic| walk_at "call builtin:len") => `(tactic| (k_here; refine Stop.mk ?_))
local macro_rules | `(tactic| walk_at "call builtin:list.append") => `(tactic| (k_here; refine Stop.mk ?_))
local macro_rules | `(tactic| walk_at "call builtin:list.pop") => `(tactic| (k_here; refine Stop.mk ?_))
theorem with_three {h₀ h : Heap} {L a b c : Addr} {oa ob oc : Obj} {T : Led} {G : Prop} (N : News h₀ L h ((a, oa) :: (b, ob) :: (c, oc) :: T)) (k : ∀ b' c', b' = b → c' = c → News h₀ L h ((b', ob) :: (c', oc) :: T) → G) : G :=
  k b c rfl rfl fun p hp => N p (.tail _ hp)
theorem div_nat (x k : Nat) : (x : Int).fdiv (k : Int) = ((x / k : Nat) : Int) := by rw [Int.fdiv_eq_ediv_of_nonneg _ (Int.natCast_nonneg k)]; rfl
theorem mod_nat (x k : Nat) : (x : Int).fmod (k : Int) = ((x % k : Nat) : Int) := by rw [Int.fmod_eq_emod_of_nonneg _ (Int.natCast_nonneg k)]; rfl
theorem cons_of {vs : List Value} {x : Nat} {r : List Nat} (h : IntsAre vs (castL (x :: r))) : ∃ y ws, vs = y :: ws := by
  cases vs with
  | nil => exact absurd h.length (by rw [castL_len]; exact fun e => nomatch e)
  | cons y ws => exact ⟨y, ws, rfl⟩
theorem nil_of {vs : List Value} (h : IntsAre vs (castL [])) : vs = [] := List.length_eq_zero_iff.mp (by rw [h.length]; rfl)
theorem cast_snoc {vs : List Value} {l : List Nat} {x : Nat} {t : Tok} (h : IntsAre vs (castL l)) : IntsAre (vs ++ [.int (x : Int) t]) (castL (l ++ [x])) := by
  unfold castL at *
  rw [List.map_append]
  exact h.append (.cons _ _ .nil)
set_option maxHeartbeats 8000000 in
theorem turns_spec (w : World) (loose mean mg mb) (T : Led) (n : Nat) (t1 : Tok) (hn : n < 1000000) :
   SpecT PySem.Challenge.pw_wf0044_02 w (Mine.hd.heap_39 w.params) topProg loose mean mg mb 5 40 84 [.int (n : Int) t1] T (turnsPost (turnsL n) T) := by
  unfold SpecT
  intro dp un gd cn cs a ccd cl outer A₀ base h₀ L0 m s0 Q E B F X N Tp hk hd hu hret
  refine wpAny_call ?_
  have hk0 : (PySem.Challenge.rw_wf0044_02 = PySem.Challenge.rw_wf0044_02 ∧ Mine.hd.heap_39 = Mine.hd.heap_39) := by (k_fill; exact ⟨rfl, rfl⟩)
  clear hk0
  k_dflt ktr_enter
  k_steps
  refine Stop.in ?_
  k_dflt (refine' pop_K (j := n % 6) (l := [0, 1, 2, 3, 4, 5]) ?F ?N ints6 ?ij (Nat.mod_lt _ (by decide)) (by decide) ?U ?_; (case F => k_asm); (case N => k_asm); (case ij => rw [Int.fmod_eq_emod_of_nonneg _ (by decide)]; rfl); (case U => k_upd))
  intro h1 u1 F1 N1 i1
  refine with_ints i1 fun v1 hv1 => ?_
  rw [← hv1] at N1 i1
  clear hv1
  obtain ⟨l1, hl1⟩ : ∃ l, l = [0, 1, 2, 3, 4, 5].eraseIdx (n % 6) := ⟨_, rfl⟩
  rw [← hl1] at i1
  have q1 : l1.length = 5 := by rw [hl1]; exact er_len (k := 5) rfl _
  k_steps
  refine Stop.in ?_
  rename News _ _ _ _ => NW
  rename Fr _ _ _ _ => FW
  refine with_fr FW fun m0 hm0 F0 => ?_
  apply with_three NW
  intro Dt Dl hDt hDl N1'
  subst hDt
  subst hDl
  clear NW
  rename Dl < Dt ∧ _ => lt
  have hne : @Ne Nat Dt Dl := Nat.ne_of_gt lt.1
  refine While_inv (J := fun k m led => ∃ u num t l done lv dv kl kd, l.length = k ∧ k ≤ 5 ∧ m = (fun z => if z = Str.ofString "number" then some (.int (num : Nat) t) else mapD [Str.ofString "number", Str.ofString "size"] u m0 z) ∧ led = (Dt, listOf (List.toArray dv) kd) :: (Dl, listOf (List.toArray lv) kl) :: T ∧ IntsAre lv (castL l) ∧ IntsAre dv (castL done) ∧ turnsL n = done ++ dealt k num l ∧ done.length + k = 5) (n₀ := 5)
    F0 N1' ?_ ?_ (by with_unfolding_all passes_own)
  · subst hm0
    exact ⟨_, n / 6, _, l1, [], v1, [], _, _, q1, Nat.le_refl _, map_one (by rw [← nd6]; rfl) map_self, rfl, i1, .nil, by rw [hl1]; rfl, rfl⟩
  · subst hm0
    intro k m1 led h2 tk2 F2 N2 hJ
    refine absQE ?_
    intro Qa Ea hQa
    refine Classical.byContradiction fun hG' => ?_
    obtain ⟨u, num, t, l, done, lv, dv, kl, kd, hlk, hk5, rfl, rfl, hlv, hdv, htl, hdk⟩ := hJ
    refine hG' ?_
    clear hG'
    rcases l with _ | ⟨x, r⟩
    · obtain rfl := nil_of hlv
      k_steps
      refine Stop.in ?_
      first | ((with_reducible show wpAny _ _ (truthy (Value.ref _)) _ _ _); k_dflt (refine' truthy_lit ?y4N ?y4m ?y4z ?_; (case y4N => k_asm); (case y4m => k_mem); (case y4z => first | with_reducible assumption | exact Nat.le_of_ble_eq_true rfl); k_whole); (try simp only [List.isEmpty_cons, List.isEmpty_nil, Bool.not_false, Bool.not_true])) | fail
      k_steps
      refine hQa _ _ ?_
      rw [if_neg (by decide)]
      clear hQa
      subst hlk
      rw [show dealt ([] : List Nat).length num [] = [] from rfl, List.append_nil] at htl
      rw [← htl] at hdv
      k_steps
      rename Fr h₀ L0 _ _ => FZ
      rename News h₀ L0 _ _ => NZ
      exact hret _ _ _ _ FZ NZ ⟨Dt, dv, kd, [_], rfl, rfl, hdv⟩
    · obtain ⟨y, ws, rfl⟩ := cons_of hlv
      have hz : ((x :: r).length : Int) ≠ 0 := by rw [List.length_cons]; omega
      have hlw : (y :: ws).length = (x :: r).length := by rw [hlv.length, castL_len]
      have hz1 : (y :: ws).length ≤ 1000000 := by rw [hlw, hlk]; omega
      have hz0 : ((y :: ws).length : Int) ≠ 0 := by rw [List.length_cons]; omega
      k_steps
      refine Stop.in ?_
      first | ((with_reducible show wpAny _ _ (truthy (Value.ref _)) _ _ _); k_dflt (refine' truthy_lit ?y3N ?y3m ?y3z ?_; (case y3N => k_asm); (case y3m => k_mem); (case y3z => first | with_reducible assumption | exact Nat.le_of_ble_eq_true rfl); k_whole); (try simp only [List.isEmpty_cons, List.isEmpty_nil, Bool.not_false, Bool.not_true])) | fail
      k_steps
      refine hQa _ _ ?_
      rw [if_pos rfl]
      clear hQa
      refine absQE ?_
      intro Qb Eb hQb
      k_steps
      refine Stop.in ?_
      first | ((with_reducible show wpAny _ _ (call (Value.builtin "len") [Value.ref _]) _ _ _); (k_dflt (refine' len_lK ?y2k1 ?y2k2 ?y2k3 ?_; (case y2k1 => k_asm); (case y2k2 => k_mem)); (case y2k3 => first | with_reducible assumption | exact Nat.le_of_ble_eq_true rfl); k_whole; intro _)) | fail
      k_steps
      refine Stop.in ?_
      have hjl : num % (x :: r).length < (x :: r).length := Nat.mod_lt _ (Nat.zero_lt_succ _)
      have hdl : dv.length < 1000000 := by rw [hdv.length, castL_len]; omega
      have hl6 : (x :: r).length < 1000 := by rw [hlk]; omega
      k_dflt (refine' pop_K (j := num % (x :: r).length) (l := x :: r) ?F ?N hlv ?ij hjl hl6 ?U ?_; (case F => k_asm); (case N => k_asm); (case ij => rw [mod_nat, hlw]); (case U => k_upd))
      intro h3 u3 F3 N3 i3
      k_steps
      refine Stop.in ?_
      first | ((with_reducible show wpAny _ _ (call (Value.builtin _) [Value.ref _, _]) _ _ _); k_dflt (refine' append_lK ?y1k1 ?y1k2 ?y1k3 ?y1k4 ?_; (case y1k1 => k_asm); (case y1k2 => k_asm); (case y1k3 => k_upd); (case y1k4 => assumption); k_whole); intro h' F' N'; (try k_sweep)) | fail
      k_steps
      refine hQb _ _ ?_
      rename Fr _ _ _ _ => FZ
      rename News _ _ _ _ => NZ
      subst hlk
      refine WhileStep.intro FZ NZ (n' := r.length) (Nat.lt_succ_self _) ⟨_, num / (x :: r).length, _, (x :: r).eraseIdx (num % (x :: r).length), done ++ [(x :: r).getD (num % (x :: r).length) 0], _, _, _, _, er_len (k := r.length) rfl _, Nat.le_of_succ_le hk5, map_one (by rw [← div_nat, ← hlw]; rfl) (by repeat (first | exact map_base | refine map_peel (by decide) ?_)), rfl, i3, cast_snoc hdv, ?_, by rw [List.length_append, List.length_singleton, ← hdk, List.length_cons, Nat.add_assoc, Nat.add_comm 1]⟩
      rw [htl, List.append_assoc]
      rfl
end Mine
end
section
open PySem PySem.W PyProof.Rows PySem.Calls
open PyProof.Rows.LCg
set_option maxRecDepth 100000
namespace Mine
theorem plain_succ : ∀ (k : Nat) (x : List Int), plainL (k + 1) x = greenL (plainL k x)
  | 0, x => rfl
  | k + 1, x => by
    rw [plainL, plain_succ k]
    rfl
theorem plain_len {x : List Int} (h : x.length = 3) : ∀ k, (plainL k x).length = 3
  | 0 => h
  | k + 1 => by rw [plain_succ]; rfl
theorem ints3 {a b c : Int} {t u v : Tok} : IntsAre [.int a t, .int b u, .int c v] [a, b, c] := .cons _ _ (.cons _ _ (.cons _ _ .nil))
theorem with_led {h₀ h : Heap} {L : Addr} {T : Led} {G : Prop} (N : News h₀ L h T) (k : ∀ W, W = T → News h₀ L h W → G) : G := k T rfl N
inductive plainPost (xs : List Int) (T : Led) (v : Value) (T' : Led) : Prop
  | mk (D : Addr) (ws : List Value) (k : Nat) (Wn : Led) (e1 : v = .ref D) (e2 : T' = Wn ++ T) (e3 : (D, listOf (List.toArray ws) k) ∈ Wn ++ T) (e4 : IntsAre ws xs) (e5 : ∀ p ∈ Wn, ∀ q ∈ T, q.1 ≠ p.1) : plainPost xs T v T'
theorem sixth_size (s : Int) : Builtin.Range.rangeSize 0 (s.fmod 6) 1 = ((sixth s : Nat) : Int) := by
  rw [Int.fmod_eq_emod_of_nonneg _ (by decide)]
  unfold Builtin.Range.rangeSize sixth
  rw [if_pos (by decide), Int.ediv_one]
  split <;> omega
theorem sixth_small (s : Int) : Builtin.Range.small 0 (s.fmod 6) 1 = true := by
  refine range_small' (by decide) ?_ (by decide)
  rw [Int.fmod_eq_emod_of_nonneg _ (by decide)]
  omega
local macro_rules | `(tactic| k_mem) => `(tactic| first | assumption | (apply List.Mem.tail; k_mem))
local macro_rules | `(tactic| walk_at "call ref") => `(tactic| (k_here; refine Stop.mk ?_))
local macro_rules | `(tactic| walk_at "pyIter ref") => `(tactic| (k_here; refine Stop.mk ?_))
local macro_rules | `(tactic| walk_at "exec For Name Call cons nil") => `(tactic| (k_here; refine Stop.mk ?_))
set_option maxHeartbeats 8000000 in
theorem plain_spec (w : World) (loose mean mg mb) (T : Led) (D : Addr) (k : Nat) (vs : List Value) (xs : List Int) (sx : Int) (t2 : Tok) (hD : (D, listOf vs.toArray k) ∈ T) (hi : IntsAre vs xs) (h3 : xs.length = 3) :
   SpecT PySem.Challenge.pw_wf0044_02 w (Mine.hd.heap_39 w.params) topProg loose mean mg mb 15 60 127 [.ref D, .int sx t2] T (plainPost (plainL (sixth sx) xs) T) := by
  unfold SpecT
  intro dp un gd cn cs a ccd cl outer A₀ base h₀ L0 m s0 Q E B F X N Tp hk hd hu hret
  refine wpAny_call ?_
  have hk0 : (PySem.Challenge.rw_wf0044_02 = PySem.Challenge.rw_wf0044_02 ∧ Mine.hd.heap_39 = Mine.hd.heap_39) := by (k_fill; exact ⟨rfl, rfl⟩)
  clear hk0
  have hpl := plain_len h3
  k_dflt ktr_enter
  k_steps
  refine Stop.in ?_
  first | (k_dflt (refine For_J (by k_asm) (by rfl) (by rfl) ?_ (by with_unfolding_all passes_own))) | fail
  k_steps
  refine Stop.in ?_
  (rename News _ _ _ _ => Nn)
  (rename Fr _ _ _ _ => FF)
  refine with_fr FF fun m0 hm0 F0 => ?_
  refine iter_rangeJ (n := sixth sx) (J := fun i m led => ∃ u Dc ws k Wn, m = (fun z => if z = Str.ofString "light" then some (.ref Dc) else mapD [Str.ofString "light", Str.ofString "turn", Str.ofString "red", Str.ofString "green", Str.ofString "blue"] u m0 z) ∧ led = Wn ++ T ∧ (Dc, listOf (List.toArray ws) k) ∈ Wn ++ T ∧ IntsAre ws (plainL i xs) ∧ (∀ p ∈ Wn, ∀ q ∈ T, q.1 ≠ p.1))
     rfl (by assumption) (sixth_small sx) (sixth_size sx) F0 (show News _ _ _ ([] ++ T) from Nn) ?_ ?_ ?_
  · subst hm0
    exact ⟨_, D, vs, k, [], map_one (by rfl) map_self, rfl, hD, hi, fun _ h => (nomatch h)⟩
  · subst hm0
    intro I i t' m1 led h tk it hi' hp'1 hoI _ hic FT NT
    refine absQE ?_
    intro Qa Ea hQa
    refine Classical.byContradiction fun hG' => ?_
    obtain ⟨u, Dc, ws, kc, Wn, rfl, rfl, hDc, hws, hfr⟩ := hp'1
    refine hG' ?_
    clear hG'
    have h3' := hpl i
    have hsuc := plain_succ i xs
    rw [three h3'] at hws
    refine Classical.byContradiction fun hG' => ?_
    obtain ⟨y0, hy0⟩ : ∃ y, y = p0 (plainL i xs) := ⟨_, rfl⟩
    obtain ⟨y1, hy1⟩ : ∃ y, y = p1 (plainL i xs) := ⟨_, rfl⟩
    obtain ⟨y2, hy2⟩ : ∃ y, y = p2 (plainL i xs) := ⟨_, rfl⟩
    refine hG' ?_
    clear hG'
    rw [← hy0, ← hy1, ← hy2] at hws
    have hgr : plainL (i + 1) xs = bareL [y0 + y2, y1 + y0, y2 + y1] := by rw [hsuc, hy0, hy1, hy2]; rfl
    cases hws with | cons _ ta i1 => cases i1 with | cons _ tb i1 => cases i1 with | cons _ tc i1 => cases i1 with | nil =>
    obtain ⟨WT, hWT⟩ : ∃ WT, WT = Wn ++ T := ⟨_, rfl⟩
    rw [← hWT] at hDc NT hoI
    k_steps
    refine Stop.in ?_
    rename News _ _ _ _ => NA
    refine name1 NA fun Dg hDg => ?_
    subst hDg
    apply with_led NA
    intro W1 hW1 NW1
    k_dflt (refine' specT_useQ (bare_spec w loose mean mg mb W1 Dg 0 _ [y0 + y2, y1 + y0, y2 + y1] (by rw [hW1]; exact List.Mem.head _) ints3 rfl) ?k1 ?k2 ?k3 ?k4 ?k5 ?kK ?ks ?kd ?ku ?_; (case k1 => k_asm); (case k2 => k_asm); (case k3 => k_asm); (case k4 => k_asm); (case k5 => k_asm); (case kK => exact rfl); (case ks => exact fun _ h => h))
    case kd => ktr_room
    case ku => ktr_units
    rintro Q' hQ' rv5 T5 h5 tk5 F5 N5 ⟨D5, x5, y5, rfl, rfl, o5, ix5⟩
    refine hQ' _ _ _ ?_
    clear hQ' Q'
    subst hW1
    clear NA
    rw [← hgr] at ix5
    k_steps
    rename Fr _ _ _ _ => FZ
    rename News _ _ _ _ => NZ
    have n5 : @Ne Nat D5 I := Ne.symm (o5 (I, it) (.tail _ (.head _)))
    refine hQa _ _ ?_
    refine TurnJ.fin FZ NZ (((D5, listOf (List.toArray x5) y5) :: Wn) ++ T) ?_ ?_ ⟨_, D5, x5, y5, (D5, listOf (List.toArray x5) y5) :: Wn, map_one (by rfl) (by repeat (first | exact map_base | refine map_peel (by decide) ?_)), rfl, .head _, ix5, ?_⟩
    · intro q hq
      rw [List.cons_append, ← hWT] at hq
      simp only [List.mem_cons] at hq ⊢
      rcases hq with hq | hq | hq <;> simp [hq]
    · intro q hq
      rw [List.cons_append, ← hWT] at hq
      rcases List.mem_cons.mp hq with rfl | hq
      · exact n5
      · exact hoI q hq
    · intro p hp q hq
      rcases List.mem_cons.mp hp with rfl | hp
      · exact o5 q (.tail _ (.tail _ (by rw [hWT]; exact List.mem_append_right _ hq)))
      · exact hfr p hp q hq
  · subst hm0
    intro m1 led h tk hp'1 FT NT
    refine Classical.byContradiction fun hG' => ?_
    obtain ⟨u, Dc, ws, kc, Wn, rfl, rfl, hDc, hws, hfr⟩ := hp'1
    refine hG' ?_
    clear hG'
    k_steps
    rename Fr h₀ L0 _ _ => FZ
    rename News h₀ L0 _ _ => NZ
    exact hret _ _ _ _ FZ NZ ⟨Dc, ws, kc, Wn, rfl, rfl, hDc, hws, hfr⟩
end Mine
end
section
open PySem PySem.W PyProof.Rows PySem.Calls
open PyProof.Rows.LCg
set_option maxRecDepth 100000
namespace Mine
theorem toldLight_len (ring : List (List Int)) (step : Int) : ∀ i, (toldLight ring step i).length = 3
  | 0 => rfl
  | i + 1 => rfl
noncomputable def toldN (ring : List (List Int)) (step : Int) (n : Nat) : List (List Int) := (List.range n).map fun (i : Nat) => bareL (plainL (sixth (0 - step * (i : Int))) (toldLight ring step 6))
theorem toldN_succ (ring : List (List Int)) (step : Int) (n : Nat) : toldN ring step (n + 1) = toldN ring step n ++ [bareL (plainL (sixth (0 - step * (n : Int))) (toldLight ring step 6))] := by
  unfold toldN
  rw [List.range_succ, List.map_append]
  rfl
theorem with_obj2 {h₀ h : Heap} {L d1 d2 : Addr} {o1 o2 : Obj} {T : Led} {G : Prop} (_ : News h₀ L h ((d1, o1) :: (d2, o2) :: T)) (k : ∀ o, o = o2 → G) : G := k _ rfl
theorem place_small {i : Nat} (h : i < 6) : -1000000000 < 0 + (i : Int) * 1 ∧ 0 + (i : Int) * 1 < 1000000000 := by omega
theorem place_eq (i : Nat) : 0 + (i : Int) * 1 = (i : Int) := by omega
local macro_rules | `(tactic| k_mem) => `(tactic| first | assumption | (apply List.Mem.tail; k_mem))
local macro_rules | `(tactic| k_all) => `(tactic| first | assumption | (refine allNe_lt (by assumption) ?_; show @LE.le Nat _ _ _; omega))
local macro_rules | `(tactic| walk_at "call ref") => `(tactic| (k_here; refine Stop.mk ?_))
local macro_rules | `(tactic| walk_at "pyIter ref") => `(tactic| (k_here; refine Stop.mk ?_))
local macro_rules | `(tactic| walk_at "exec For Name Call cons nil") => `(tactic| (k_here; refine Stop.mk ?_))
local macro_rules | `(tactic| walk_at "subscriptTail Name Name ref int") => `(tactic| (k_here; refine Stop.mk ?_))
local macro_rules | `(tactic| walk_at "binaryOp Mult int int") => `(tactic| (k_here; refine Stop.mk ?_))
local macro_rules | `(tactic| walk_at "call builtin:list.append") => `(tactic| (k_here; refine Stop.mk ?_))
set_option maxHeartbeats 8000000 in
theorem told_spec (w : World) (loose mean mg mb) (T : Led) (DR : Addr) (kr : Nat) (rv : List Value) (ring : List (List Int)) (step : Int) (t2 : Tok) (hR : (DR, listOf rv.toArray kr) ∈ T) (hRows : RowsIn T rv ring) (hl : ring.length = 6) (h3 : ∀ i, i < 6 → (ring.getD i []).length = 3) (hst : -1000000000 < step ∧ step < 1000000000) :
   SpecT PySem.Challenge.pw_wf0044_02 w (Mine.hd.heap_39 w.params) topProg loose mean mg mb 30 160 134 [.ref DR, .int step t2] T (rowsPost (toldL ring step) T) := by
  unfold SpecT
  intro dp un gd cn cs a ccd cl outer A₀ base h₀ L0 m s0 Q E B F X N Tp hk hd hu hret
  refine wpAny_call ?_
  have hk0 : (PySem.Challenge.rw_wf0044_02 = PySem.Challenge.rw_wf0044_02 ∧ Mine.hd.heap_39 = Mine.hd.heap_39) := by (k_fill; exact ⟨rfl, rfl⟩)
  clear hk0
  k_dflt ktr_enter
  k_steps
  refine Stop.in ?_
  first | (k_dflt (refine For_J (by k_asm) (by rfl) (by rfl) ?_ (by with_unfolding_all passes_own))) | fail
  k_steps
  refine Stop.in ?_
  (rename News _ _ _ _ => Nn)
  (rename Fr _ _ _ _ => FF)
  replace Nn := news_tail Nn
  refine with_fr FF fun m0 hm0 F0 => ?_
  refine name2 Nn fun Dt D0 hDt hD0 => ?_
  subst hDt
  subst hD0
  rename D0 < Dt ∧ AllLt Dt T => lD
  have nD0 : @Ne Nat D0 Dt := Nat.ne_of_lt lD.1
  have hTt : ∀ p ∈ T, p.1 ≠ Dt := allLt_neOf lD.2
  refine with_obj2 Nn fun o0 ho0 => ?_
  have hl0 : ∃ v0, o0 = listOf (List.toArray v0) 0 ∧ IntsAre v0 (toldLight ring step 0) := ⟨_, ho0, ints3⟩
  rw [← ho0] at Nn
  clear ho0
  refine Classical.byContradiction fun hG' => ?_
  obtain ⟨v0, rfl, hv0⟩ := hl0
  obtain ⟨T1, hT1⟩ : ∃ T1, T1 = (Dt, listOf (List.toArray []) 0) :: T := ⟨_, rfl⟩
  refine hG' ?_
  clear hG'
  have hDt1 : (Dt, listOf (List.toArray []) 0) ∈ T1 := by rw [hT1]; exact .head _
  have hTT : ∀ p ∈ T, p ∈ T1 := fun p hp => by rw [hT1]; exact .tail _ hp
  have NB : News _ _ _ ([(D0, listOf (List.toArray v0) 0)] ++ T1) := news_sub Nn (fun p hp => by
    rw [hT1] at hp
    simp only [List.mem_append, List.mem_cons, List.not_mem_nil, or_false] at hp ⊢
    rcases hp with hp | hp | hp <;> simp [hp])
  clear Nn
  refine iter_rangeJ (n := 6) (J := fun i m led => ∃ u Dc ws k Wn, m = (fun z => if z = Str.ofString "light" then some (.ref Dc) else mapD [Str.ofString "light", Str.ofString "place"] u m0 z) ∧ led = Wn ++ T1 ∧ (Dc, listOf (List.toArray ws) k) ∈ Wn ∧ IntsAre ws (toldLight ring step i) ∧ (∀ p ∈ Wn, p.1 ≠ Dt))
     rfl (by assumption) (by decide +kernel) (by decide +kernel) F0 NB ?_ ?_ ?_
  · subst hm0
    refine ⟨_, D0, v0, 0, _, map_one (by rfl) map_self, rfl, .head _, hv0, fun p hp => ?_⟩
    rw [List.mem_singleton.mp hp]
    exact nD0
  · subst hm0
    intro I i t' m1 led h tk it hi' hp'1 hoI _ hic FT NT
    refine absQE ?_
    intro Qa Ea hQa
    refine Classical.byContradiction fun hG' => ?_
    obtain ⟨u, Dc, ws, kc, Wn, rfl, rfl, hDc, hws, hfr⟩ := hp'1
    obtain ⟨d0, x0, y0, ex0, mx0, ix0⟩ := hRows.row (i := i) (by rw [hl]; exact hi')
    refine hG' ?_
    clear hG'
    have hxl := h3 i hi'
    have hpl := place_small hi'
    obtain ⟨WT, hWT⟩ : ∃ WT, WT = Wn ++ T1 := ⟨_, rfl⟩
    have mR : (DR, listOf rv.toArray kr) ∈ WT := by rw [hWT]; exact List.mem_append_right _ (hTT _ hR)
    have m0' : (d0, listOf x0.toArray y0) ∈ (I, it) :: WT := by rw [hWT]; exact .tail _ (List.mem_append_right _ (hTT _ mx0))
    have mC : (Dc, listOf (List.toArray ws) kc) ∈ WT := by rw [hWT]; exact List.mem_append_left _ hDc
    have mDt : (Dt, listOf (List.toArray []) 0) ∈ WT := by rw [hWT]; exact List.mem_append_right _ hDt1
    rw [← hWT] at NT hoI
    k_steps
    refine Stop.in ?_
    refine item_lK (by k_asm) (k := kr) (vs := rv) (.tail _ mR) (turn_rng i hi') (by rw [turn_nat]; exact ex0) ?_
    k_steps
    refine Stop.in ?_
    first | (refine mul_K (small_int (by with_reducible assumption)) (small_int (by with_reducible assumption)) ?_) | fail
    k_steps
    refine Stop.in ?_
    k_dflt (refine' specT_useQ (plain_spec w loose mean mg mb ((I, it) :: WT) d0 y0 x0 _ (step * (0 + (i : Int) * 1)) _ m0' ix0 hxl) ?k1 ?k2 ?k3 ?k4 ?k5 ?kK ?ks ?kd ?ku ?_; (case k1 => k_asm); (case k2 => k_asm); (case k3 => k_asm); (case k4 => k_asm); (case k5 => k_asm); (case kK => exact rfl); (case ks => exact fun _ h => h))
    case kd => ktr_room
    case ku => ktr_units
    rintro Q' hQ' rv5 T5 h5 tk5 F5 N5 ⟨D5, x5, y5, Wp, rfl, rfl, m5, ix5, hfp⟩
    refine hQ' _ _ _ ?_
    clear hQ' Q'
    rw [place_eq] at ix5
    refine Classical.byContradiction fun hG' => ?_
    obtain ⟨WU, hWU⟩ : ∃ WU, WU = Wp ++ ((I, it) :: WT) := ⟨_, rfl⟩
    refine hG' ?_
    clear hG'
    rw [← hWU] at N5 m5
    have hIU : (I, it) ∈ WU := by rw [hWU]; exact List.mem_append_right _ (.head _)
    have hTU : ∀ p ∈ WT, p ∈ WU := fun p hp => by rw [hWU]; exact List.mem_append_right _ (.tail _ hp)
    k_steps
    refine Stop.in ?_
    rw [three (toldLight_len ring step i)] at hws
    rw [three (plain_len hxl _)] at ix5
    k_dflt (refine' specT_useQ (mixed_spec w loose mean mg mb WU Dc D5 kc y5 ws x5 _ _ _ _ _ _ (hTU _ mC) m5 hws ix5) ?k1 ?k2 ?k3 ?k4 ?k5 ?kK ?ks ?kd ?ku ?_; (case k1 => k_asm); (case k2 => k_asm); (case k3 => k_asm); (case k4 => k_asm); (case k5 => k_asm); (case kK => exact rfl); (case ks => exact fun _ h => h))
    case kd => ktr_room
    case ku => ktr_units
    rintro Q' hQ' rv6 T6 h6 tk6 F6 N6 ⟨D6, x6, y6, rfl, rfl, o6, ix6⟩
    refine hQ' _ _ _ ?_
    clear hQ' Q'
    replace ix6 : IntsAre x6 (toldLight ring step (i + 1)) := ix6
    k_steps
    rename Fr _ _ _ _ => FZ
    rename News _ _ _ _ => NZ
    refine hQa _ _ ?_
    refine TurnJ.fin FZ NZ (((D6, listOf (List.toArray x6) y6) :: Wn) ++ T1) ?_ ?_ ⟨_, D6, x6, y6, (D6, listOf (List.toArray x6) y6) :: Wn, map_one (by rfl) (by repeat (first | exact map_base | refine map_peel (by decide) ?_)), rfl, .head _, ix6, ?_⟩
    · intro q hq
      rw [List.cons_append, ← hWT] at hq
      simp only [List.mem_cons] at hq ⊢
      rcases hq with hq | hq | hq
      · exact .inr (hq ▸ hIU)
      · exact .inl hq
      · exact .inr (hTU q hq)
    · intro q hq
      rw [List.cons_append, ← hWT] at hq
      rcases List.mem_cons.mp hq with rfl | hq
      · exact Ne.symm (o6 (I, it) hIU)
      · exact hoI q hq
    · intro p hp
      rcases List.mem_cons.mp hp with rfl | hp
      · exact Ne.symm (o6 (Dt, _) (hTU _ mDt))
      · exact hfr p hp
  · subst hm0
    intro m1 led h tk hp'1 FT NT
    refine Classical.byContradiction fun hG' => ?_
    obtain ⟨u, Dc, ws, kc, Wn, rfl, rfl, hDc, hws, hfr⟩ := hp'1
    obtain ⟨XX, hXX⟩ : ∃ XX, XX = Wn ++ T := ⟨_, rfl⟩
    refine hG' ?_
    clear hG'
    have hXt : ∀ p ∈ XX, p.1 ≠ Dt := fun p hp => by
      rw [hXX] at hp
      exact (List.mem_append.mp hp).elim (hfr p) (hTt p)
    have mC : (Dc, listOf (List.toArray ws) kc) ∈ XX := by rw [hXX]; exact List.mem_append_left _ hDc
    have hTX : ∀ p ∈ T, p ∈ XX := fun p hp => by rw [hXX]; exact List.mem_append_right _ hp
    have NX : News _ _ _ ((Dt, listOf (List.toArray []) 0) :: ([] ++ XX)) := news_sub NT (fun p hp => by
      rw [List.nil_append, hXX] at hp
      rw [hT1]
      simp only [List.mem_append, List.mem_cons] at hp ⊢
      rcases hp with hp | hp | hp <;> simp [hp])
    clear NT
    have h6l := toldLight_len ring step 6
    k_steps
    refine Stop.in ?_
    first | (k_dflt (refine For_J (by k_asm) (by rfl) (by rfl) ?_ (by with_unfolding_all passes_own))) | fail
    k_steps
    refine Stop.in ?_
    (rename News _ _ _ _ => Nn2)
    (rename Fr _ _ _ _ => FF2)
    refine with_fr FF2 fun m2 hm2 F2 => ?_
    refine iter_rangeJ (n := 6) (J := fun i m led => ∃ u ws' k' Wn', m = mapD [Str.ofString "place"] u m2 ∧ led = (Dt, listOf (List.toArray ws') k') :: (Wn' ++ XX) ∧ ws'.length = i ∧ RowsIn Wn' ws' (toldN ring step i) ∧ (∀ p ∈ Wn', p.1 ≠ Dt))
       rfl (by assumption) (by decide +kernel) (by decide +kernel) F2 Nn2 ?_ ?_ ?_
    · subst hm2
      exact ⟨_, [], 0, [], mapD_self, rfl, rfl, .nil, fun _ h => (nomatch h)⟩
    · subst hm2
      intro I i t' m3 led3 h3' tk3 it hi' hp'1 hoI _ hic FT3 NT3
      refine absQE ?_
      intro Qa Ea hQa
      refine Classical.byContradiction fun hG' => ?_
      obtain ⟨u3, ws3, k3, Wn3, rfl, rfl, hwl3, hrw3, hn3⟩ := hp'1
      refine hG' ?_
      clear hG'
      have hpl := place_small hi'
      have hw36 : ws3.length < 1000000 := by omega
      have nI : @Ne Nat I Dt := Ne.symm (hoI (Dt, _) (.head _))
      obtain ⟨WT, hWT⟩ : ∃ WT, WT = Wn3 ++ XX := ⟨_, rfl⟩
      rw [← hWT] at NT3 hoI
      have mC2 : (Dc, listOf (List.toArray ws) kc) ∈ (I, it) :: (Dt, listOf (List.toArray ws3) k3) :: WT := by rw [hWT]; exact .tail _ (.tail _ (List.mem_append_right _ mC))
      have hWt : ∀ p ∈ WT, p.1 ≠ Dt := fun p hp => by
        rw [hWT] at hp
        exact (List.mem_append.mp hp).elim (hn3 p) (hXt p)
      k_steps
      refine Stop.in ?_
      first | (refine mul_K (small_int (by with_reducible assumption)) (small_int (by with_reducible assumption)) ?_) | fail
      k_steps
      refine Stop.in ?_
      k_dflt (refine' specT_useQ (plain_spec w loose mean mg mb _ Dc kc ws _ (0 - step * (0 + (i : Int) * 1)) _ mC2 hws h6l) ?k1 ?k2 ?k3 ?k4 ?k5 ?kK ?ks ?kd ?ku ?_; (case k1 => k_asm); (case k2 => k_asm); (case k3 => k_asm); (case k4 => k_asm); (case k5 => k_asm); (case kK => exact rfl); (case ks => exact fun _ h => h))
      case kd => ktr_room
      case ku => ktr_units
      rintro Q' hQ' rv5 T5 h5 tk5 F5 N5 ⟨D5, x5, y5, Wp, rfl, rfl, m5, ix5, hfp⟩
      refine hQ' _ _ _ ?_
      clear hQ' Q'
      rw [place_eq] at ix5
      refine Classical.byContradiction fun hG' => ?_
      obtain ⟨WU, hWU⟩ : ∃ WU, WU = Wp ++ ((I, it) :: (Dt, listOf (List.toArray ws3) k3) :: WT) := ⟨_, rfl⟩
      refine hG' ?_
      clear hG'
      rw [← hWU] at N5 m5
      have hTU : ∀ p ∈ (I, it) :: (Dt, listOf (List.toArray ws3) k3) :: WT, p ∈ WU := fun p hp => by rw [hWU]; exact List.mem_append_right _ hp
      k_steps
      refine Stop.in ?_
      k_dflt (refine' specT_useQ (bare_spec w loose mean mg mb WU D5 y5 x5 _ m5 ix5 (plain_len h6l _)) ?k1 ?k2 ?k3 ?k4 ?k5 ?kK ?ks ?kd ?ku ?_; (case k1 => k_asm); (case k2 => k_asm); (case k3 => k_asm); (case k4 => k_asm); (case k5 => k_asm); (case kK => exact rfl); (case ks => exact fun _ h => h))
      case kd => ktr_room
      case ku => ktr_units
      rintro Q' hQ' rv6 T6 h6 tk6 F6 N6 ⟨D6, x6, y6, rfl, rfl, o6, ix6⟩
      refine hQ' _ _ _ ?_
      clear hQ' Q'
      have n6 : @Ne Nat D6 Dt := Ne.symm (o6 (Dt, _) (hTU _ (.tail _ (.head _))))
      have n6i : @Ne Nat D6 I := Ne.symm (o6 (I, it) (hTU _ (.head _)))
      replace N6 := news_hd N6 hTU
      k_steps
      refine Stop.in ?_
      first | ((with_reducible show wpAny _ _ (call (Value.builtin _) [Value.ref _, _]) _ _ _); k_dflt (refine' append_lK ?y1k1 ?y1k2 ?y1k3 ?y1k4 ?_; (case y1k1 => k_asm); (case y1k2 => k_asm); (case y1k3 => k_upd); (case y1k4 => assumption); k_whole); intro h' F' N'; (try k_sweep)) | fail
      k_steps
      rename Fr _ _ _ _ => FZ
      rename News _ _ _ _ => NZ
      refine hQa _ _ ?_
      refine TurnJ.fin FZ NZ ((Dt, listOf (List.toArray (ws3 ++ [Value.ref D6])) (k3 + 1)) :: (((D6, listOf (List.toArray x6) y6) :: Wn3) ++ XX)) ?_ ?_ ⟨_, _, _, (D6, listOf (List.toArray x6) y6) :: Wn3, mapD_of (by repeat (first | exact map_base | refine map_peel (by decide) ?_)), rfl, by rw [List.length_append, hwl3]; rfl, ?_, ?_⟩
      · intro q hq
        rw [List.cons_append, ← hWT] at hq
        simp only [List.mem_cons] at hq ⊢
        rcases hq with hq | hq | hq | hq <;> simp [hq]
      · intro q hq
        rw [List.cons_append, ← hWT] at hq
        rcases List.mem_cons.mp hq with rfl | hq
        · exact Ne.symm nI
        · rcases List.mem_cons.mp hq with rfl | hq
          · exact n6i
          · exact hoI q (.tail _ hq)
      · rw [toldN_succ]
        exact (hrw3.mono fun _ h => .tail _ h).snoc ⟨D6, x6, y6, rfl, .head _, ix6⟩
      · intro p hp
        rcases List.mem_cons.mp hp with rfl | hp
        · exact n6
        · exact hn3 p hp
    · subst hm2
      intro m3 led3 h3' tk3 hp'1 FT3 NT3
      refine Classical.byContradiction fun hG' => ?_
      obtain ⟨u3, ws3, k3, Wn3, rfl, rfl, hwl3, hrw3, hn3⟩ := hp'1
      refine hG' ?_
      clear hG'
      k_steps
      rename Fr h₀ L0 _ _ => FZ
      rename News h₀ L0 _ _ => NZ
      exact hret _ _ _ _ FZ NZ ⟨Dt, ws3, k3, rfl, .head _, hrw3.mono fun p hp => .tail _ (List.mem_append_left _ hp), fun p hp => .tail _ (List.mem_append_right _ (hTX p hp))⟩
end Mine
end
section
open PySem PySem.W PyProof.Rows PySem.Calls
open PyProof.Rows.LCg
set_option maxRecDepth 100000
namespace Mine
abbrev two (elt t1 i1 t2 i2 : Expr) (scope : Scope) (pos : Pos) : Expr := .ListComp elt [⟨t1, i1, [], 0⟩, ⟨t2, i2, [], 0⟩] scope pos
theorem turn_outer (elt t1 i1 t2 i2 : Expr) (scope : Scope) (pos : Pos) (it acc : Value) (env : Env) :
    compTurn (two elt t1 i1 t2 i2 scope pos) 0 it acc env = (standAt i1.pos >>= fun _ => pyNext it >>= fun r => match r with
      | none => pure (.done .next)
      | some v => letOwnedTupleGo t1 it v >>= fun _ => assign t1 env v >>= fun _ =>
        eval i2 env >>= fun x => standAt i2.pos >>= fun _ => foldedSetIterable i2 env x >>= fun x => holding [x] (pyIter x) >>= fun it2 => runOwn (.compStart (two elt t1 i1 t2 i2 scope pos) 1 it2 acc env) env >>= fun _ =>
          again (.compLoop (two elt t1 i1 t2 i2 scope pos) 0 it acc env)) := by rfl
theorem turn_inner (elt t1 i1 t2 i2 : Expr) (scope : Scope) (pos : Pos) (it acc : Value) (env : Env) :
    compTurn (two elt t1 i1 t2 i2 scope pos) 1 it acc env = (standAt i2.pos >>= fun _ => pyNext it >>= fun r => match r with
      | none => pure (.done .next)
      | some v => letOwnedTupleGo t2 it v >>= fun _ => assign t2 env v >>= fun _ =>
        (eval elt env >>= fun x => call (.builtin "list.append") [acc, x] >>= fun _ => pure ()) >>= fun _ =>
          again (.compLoop (two elt t1 i1 t2 i2 scope pos) 1 it acc env)) := by rfl
section
variable {prog : Program} {w : World} {A : Around} {E : Value → Shared → Prop} {R : Result → Shared → Prop} {s : Shared} {elt t1 i1 t2 i2 : Expr} {scope : Scope} {pos : Pos} {it acc : Value} {env : Env}
theorem loop_inner (I : Nat → Shared → Prop)
    (turn : ∀ n s, I n s → wpAny (model prog w) A (pyNext it) (fun r s₁ => match r with
      | none => R (.ok .next) s₁
      | some v => wpAny (model prog w) A (assign t2 env v) (fun _ s₂ => wpAny (model prog w) A (eval elt env) (fun x s₃ =>
          wpAny (model prog w) A (call (.builtin "list.append") [acc, x]) (fun _ s₄ => ∃ m, m < n ∧ I m s₄) (notedBy (model prog w) A env fun e s' => R (.error e) s') s₃)
          (notedBy (model prog w) A env fun e s' => R (.error e) s') s₂) (notedBy (model prog w) A env fun e s' => R (.error e) s') s₁) (notedBy (model prog w) A env fun e s' => R (.error e) s') s)
    (n : Nat) (h : I n s) (ht : ∀ v, letOwnedTupleGo t2 it v = pure () := by intro _; rfl) :
    codeAny (model prog w) A (.compLoop (two elt t1 i1 t2 i2 scope pos) 1 it acc env) R s := by
  refine codeAny_loop rfl I (fun n s hI => ?_) n h
  show wpAny _ _ ((compTurn (two elt t1 i1 t2 i2 scope pos) 1 it acc env).onRaise (fun x => do noteFrame x env; theTreesLotGoes x)) _ _ s
  refine wpAny_noted ?_
  rw [turn_inner]
  refine wpAny_bind (wpAny_standAt (wpAny_bind (wpAny_mono (turn n s hI) (fun r s₁ h₁ => ?_) fun _ _ h' => h')))
  cases r with
  | none => exact wpAny_pure h₁
  | some v =>
    refine wpAny_bind (wpAny_of_eq (ht v) ?_)
    exact wpAny_bind (wpAny_mono h₁ (fun _ s₂ h₂ => wpAny_bind (wpAny_bind (wpAny_mono h₂ (fun x s₃ h₃ => wpAny_bind (wpAny_mono h₃
      (fun _ s₄ h₄ => wpAny_pure (wpAny_pure ⟨rfl, h₄⟩)) fun _ _ h' => h')) fun _ _ h' => h'))) fun _ _ h' => h')
theorem loop_outer (I : Nat → Shared → Prop)
    (turn : ∀ n s, I n s → wpAny (model prog w) A (pyNext it) (fun r s₁ => match r with
      | none => R (.ok .next) s₁
      | some v => wpAny (model prog w) A (assign t1 env v) (fun _ s₂ => wpAny (model prog w) A (eval i2 env) (fun x s₃ =>
          wpAny (model prog w) A (pyIter x) (fun it2 s₄ => codeAny (model prog w) A (.compStart (two elt t1 i1 t2 i2 scope pos) 1 it2 acc env)
            (fun r s₅ => match r with | .ok _ => ∃ m, m < n ∧ I m s₅ | .error e => cameBackBy (model prog w) A env (notedBy (model prog w) A env fun e s' => R (.error e) s') e s₅) s₄)
            (notedBy (model prog w) A env fun e s' => R (.error e) s') s₃)
          (notedBy (model prog w) A env fun e s' => R (.error e) s') s₂) (notedBy (model prog w) A env fun e s' => R (.error e) s') s₁) (notedBy (model prog w) A env fun e s' => R (.error e) s') s)
    (n : Nat) (h : I n s) (ht : ∀ v, letOwnedTupleGo t1 it v = pure () := by intro _; rfl) (hs : ∀ x, foldedSetIterable i2 env x = pure x := by intro _; rfl) :
    codeAny (model prog w) A (.compLoop (two elt t1 i1 t2 i2 scope pos) 0 it acc env) R s := by
  refine codeAny_loop rfl I (fun n s hI => ?_) n h
  show wpAny _ _ ((compTurn (two elt t1 i1 t2 i2 scope pos) 0 it acc env).onRaise (fun x => do noteFrame x env; theTreesLotGoes x)) _ _ s
  refine wpAny_noted ?_
  rw [turn_outer]
  refine wpAny_bind (wpAny_standAt (wpAny_bind (wpAny_mono (turn n s hI) (fun r s₁ h₁ => ?_) fun _ _ h' => h')))
  cases r with
  | none => exact wpAny_pure h₁
  | some v =>
    refine wpAny_bind (wpAny_of_eq (ht v) ?_)
    refine wpAny_bind (wpAny_mono h₁ (fun _ s₂ h₂ => wpAny_bind (wpAny_mono h₂ (fun x s₃ h₃ => wpAny_bind (wpAny_standAt (wpAny_bind (wpAny_of_eq (hs x) (wpAny_bind (wpAny_holding (wpAny_mono h₃ (fun it2 s₄ h₄ => ?_) fun _ _ h' => h'))))))) fun _ _ h' => h')) fun _ _ h' => h')
    refine wpAny_bind (wpAny_runOwn (codeAny_mono h₄ fun r s' hr => ?_))
    cases r with
    | ok f => exact wpAny_pure ⟨rfl, hr⟩
    | error e => exact hr
theorem start_inner
    (h0 : codeAny (model prog w) A (.compLoop (two elt t1 i1 t2 i2 scope pos) 1 it acc env) R s)
    (h : wpAny (model prog w) A (pyIter it) (fun it' s' => codeAny (model prog w) A (.compLoop (two elt t1 i1 t2 i2 scope pos) 1 it' acc env) R s')
      (notedBy (model prog w) A env fun x s' => R (.error x) s') s) :
    codeAny (model prog w) A (.compStart (two elt t1 i1 t2 i2 scope pos) 1 it acc env) R s := by
  refine codeAny_of_tree ?_
  show wpAny _ _ ((compStart (two elt t1 i1 t2 i2 scope pos) 1 it acc env).onRaise (fun x => do noteFrame x env; standAt theWindowsPlace)) _ _ s
  refine wpAny_notedAt ?_
  unfold compStart
  show wpAny _ _ (ask >>= _) _ _ s
  refine wpAny_bind (wpAny_askSetting (wpAny_ite ?_))
  split
  · first
      | exact wpAny_bind (wpAny_pure (wpAny_pure (And.intro rfl h0)))
      | exact wpAny_pure (And.intro rfl h0)
  · first
      | exact wpAny_bind (wpAny_rule (wpAny_bind (wpAny_standAt (wpAny_bind (wpAny_mono h (fun it' s' h' => wpAny_pure (And.intro rfl h')) fun _ _ x => x)))))
      | (refine wpAny_bind (wpAny_rule ?_); show wpAny _ _ (standAt i2.pos >>= _) _ _ s; exact wpAny_bind (wpAny_standAt (wpAny_bind (wpAny_mono h (fun it' s' h' => wpAny_pure (And.intro rfl h')) fun _ _ x => x))))
end
end Mine
end
section
open PySem PySem.W PyProof.Rows PySem.Calls
open PyProof.Rows.LCg
set_option maxRecDepth 100000
namespace Mine
section
variable {prog : Program} {w : World} {A : Around} {E : Value → Shared → Prop} {R : Result → Shared → Prop} {s : Shared} {t1 i1 i2 : Expr} {scope : Scope} {cl : List (Str × Addr)} {pos px py : Pos} {env : Env} {x : Str}
theorem inner_ok {K : Heap → Prop} {I C D d : Addr} {ws ys : List Value} {m : Str → Option Value} (hh : A.handled = none) (hdI : d ≠ I) (hdC : d ≠ C) (hdD : d ≠ D) (hCI : C ≠ I) (hDI : D ≠ I) (hCD : C ≠ D)
    (hK : ∀ h h', K h → (∀ b o, b ≠ I → b ≠ C → b ≠ D → h.get? b = some o → h'.get? b = some o) → K h') (hx : scope.names.lookup x = some .local) (hkind : scope.kind = .function) (hbug : (x == ("__debug__" : Str)) = false)
    (hit : s.heap.IsListIter I d 0) (hls : s.heap.IsList d ws.toArray) (hC : s.heap.Ns C m) (hD : s.heap.get? D = some (lst ys)) (hKs : K s.heap) (hsz : ys.length + ws.length ≤ sizeLine)
    (fin : ∀ h' tk m', K h' → h'.Ns C m' → h'.get? D = some (lst (ys ++ ws)) → h'.IsList d ws.toArray → R (.ok .next) { s with heap := h', toks := tk }) :
    codeAny (model prog w) A (.compLoop (two (.Name x px) t1 i1 (.Name x py) i2 scope pos) 1 (.ref I) (.ref D) (compEnvC scope cl C env)) R s := by
  have W := Walks.list (prog := prog) (w := w) hh I d hdI ws.toArray
  rw [List.size_toArray] at W
  refine loop_inner
    (fun k s' => ∃ h' tk i m', s' = { s with heap := h', toks := tk } ∧ i ≤ ws.length ∧ k = ws.length + 1 - i ∧ h'.IsListIter I d i ∧ h'.IsList d ws.toArray ∧ h'.Ns C m' ∧ h'.get? D = some (lst (ys ++ ws.take i)) ∧ K h') ?_ (ws.length + 1)
    ⟨s.heap, s.toks, 0, m, rfl, Nat.zero_le _, rfl, hit, hls, hC, by rw [List.take_zero, List.append_nil]; exact hD, hKs⟩
  intro k s' hp'1
  refine Classical.byContradiction fun hG' => ?_
  obtain ⟨h', tk, i, m', rfl, hi, rfl, hit', hls', hn', hD', hK'⟩ := hp'1
  refine hG' ?_
  clear hG'
  by_cases hlt : i < ws.length
  · refine W.item i _ _ _ hlt ⟨hit', hls'⟩ fun v h₂ tk₂ hPv hst₂ hk₂ => ?_
    have hk₂' : ∀ b o, b ≠ I → h'.get? b = some o → h₂.get? b = some o := fun b o hb e => hk₂ b o (by simpa using hb) e
    refine wpAny_assign_Name (wpAny_storeName_local (lookup_relabel_local hx) (hn'.at' fun o e => hk₂' _ o hCI e) (fun h₃ hn₃ hs₃ => ?_) (by simp [compEnvC, relabel, hkind]))
    have hkk : ∀ b o, b ≠ I → b ≠ C → h'.get? b = some o → h₃.get? b = some o := fun b o hb hc e => hs₃.extBut b o hc (hk₂' b o hb e)
    have hst₃ : h₃.IsListIter I d (i + 1) ∧ h₃.IsList d ws.toArray := W.frame _ _ _ hst₂ fun b hb o e => hs₃.extBut b o (fun q => by
      have q' : b = C := q
      subst q'
      simp only [List.mem_cons, List.not_mem_nil, or_false] at hb
      rcases hb with h | h
      · exact hCI h
      · exact hdC h.symm) e
    refine wpAny_Name (wpAny_loadName_local (by simp [compEnvC, relabel, hkind]) (lookup_relabel_local hx) hn₃ (v := v) (by simp) ?_) hbug
    have hD₃ : h₃.get? D = some (lst (ys ++ ws.take i)) := hkk D _ hDI (Ne.symm hCD) hD'
    refine append_at (hsz := by
      show (ys ++ ws.take i).toArray.size ≤ sizeLine
      rw [List.size_toArray, List.length_append, List.length_take]
      omega) hD₃ fun h₅ hs₅ hD₅ => ?_
    have hv : ws[i]? = some v := by simpa using hPv
    refine ⟨ws.length + 1 - (i + 1), by omega, h₅, _, i + 1, _, rfl, hlt, rfl, ?_, ?_, hn₃.sameBut hs₅ hCD, ?_, ?_⟩
    · exact hst₃.1.at fun o e => hs₅.extBut _ o (Ne.symm hDI) e
    · exact hst₃.2.at fun o e => hs₅.extBut _ o hdD e
    · rw [hD₅, lst_snoc, List.append_assoc, List.take_add_one, hv, Option.toList_some]
    · exact hK _ _ hK' fun b o b1 b2 b3 e => hs₅.extBut b o b3 (hkk b o b1 b2 e)
  · obtain rfl : i = ws.length := Nat.le_antisymm hi (Nat.not_lt.mp hlt)
    refine W.done _ _ _ ⟨hit', hls'⟩ fun h₂ tk₂ hk₂ => ?_
    have hk₂' : ∀ b o, b ≠ I → h'.get? b = some o → h₂.get? b = some o := fun b o hb e => hk₂ b o (by simpa using hb) e
    refine fin h₂ tk₂ m' (hK _ _ hK' fun b o b1 _ _ e => hk₂' b o b1 e) (hn'.at' fun o e => hk₂' _ o hCI e) ?_ (hls'.at fun o e => hk₂' _ o hdI e)
    rw [List.take_length] at hD'
    exact hk₂' _ _ hDI hD'
end
end Mine
end
section
open PySem PySem.W PyProof.Rows PySem.Calls
open PyProof.Rows.LCg
set_option maxRecDepth 100000
namespace Mine
inductive RowsV (T : Led) : List Value → List (List Value) → Prop
  | nil : RowsV T [] []
  | cons {d ws k vs wss} : (d, listOf ws.toArray k) ∈ T → RowsV T vs wss → RowsV T (.ref d :: vs) (ws :: wss)
theorem RowsV.at {T : Led} {vs : List Value} {wss : List (List Value)} (h : RowsV T vs wss) {i : Nat} {v : Value} (hv : vs[i]? = some v) : ∃ d ws k, v = .ref d ∧ wss[i]? = some ws ∧ (d, listOf ws.toArray k) ∈ T := by
  induction h generalizing i with
  | nil => cases hv
  | @cons d ws k _ _ hm _ ih =>
    cases i with
    | zero =>
      simp only [List.getElem?_cons_zero, Option.some.injEq] at hv
      exact ⟨d, ws, k, hv.symm, rfl, hm⟩
    | succ i => exact ih hv
theorem RowsV.length {T : Led} {vs : List Value} {wss : List (List Value)} (h : RowsV T vs wss) : vs.length = wss.length := by
  induction h with
  | nil => rfl
  | cons _ _ ih => rw [List.length_cons, List.length_cons, ih]
theorem flat_take {wss : List (List Value)} {i : Nat} {ws : List Value} (h : wss[i]? = some ws) : (wss.take (i + 1)).flatten = (wss.take i).flatten ++ ws := by
  rw [List.take_add_one, h, Option.toList_some, List.flatten_append]
  simp
theorem flat_le {wss : List (List Value)} (i : Nat) : (wss.take i).flatten.length ≤ wss.flatten.length := by
  conv => rhs; rw [← List.take_append_drop i wss]
  rw [List.flatten_append, List.length_append]
  omega
section
variable {prog : Program} {w : World} {A : Around} {E : Value → Shared → Prop} {s s₂ : Shared} {i1 : Expr} {scope : Scope} {cl : List (Str × Addr)} {pos p1 p2 p3 p4 : Pos} {env : Env} {x1 x2 : Str} {h₀ : Heap} {L : Addr} {m : Str → Option Value} {news : Led}
theorem outer_ok {I l C D k : Nat} {vs : List Value} {wss : List (List Value)} {m1 : Str → Option Value} {R : Result → Shared → Prop} (hh : A.handled = none) (hx1 : scope.names.lookup x1 = some .local) (hx2 : scope.names.lookup x2 = some .local) (hkind : scope.kind = .function) (hb1 : (x1 == ("__debug__" : Str)) = false) (hb2 : (x2 == ("__debug__" : Str)) = false)
    (hfs : ∀ x, foldedSetIterable (.Name x1 p2) (compEnvC scope cl C env) x = pure x)
    (hl : (l, listOf vs.toArray k) ∈ news) (hr : RowsV news vs wss) (hsz : wss.flatten.length ≤ sizeLine) (hC₀ : h₀.get? C = none) (hD₀ : h₀.get? D = none) (hI₀ : h₀.get? I = none) (hCL : C ≠ L) (hDL : D ≠ L) (hIL : I ≠ L) (hCD : C ≠ D) (hCI : C ≠ I) (hDI : D ≠ I)
    (off : ∀ p ∈ news, p.1 ≠ I ∧ p.1 ≠ C ∧ p.1 ≠ D) (F : Fr h₀ L s₂.heap m) (N : News h₀ L s₂.heap ((D, lst []) :: news)) (hit : s₂.heap.IsListIter I l 0) (hCn : s₂.heap.Ns C m1)
    (fin : ∀ h' tk m', Fr h₀ L h' m → News h₀ L h' ((D, lst wss.flatten) :: news) → h'.Ns C m' → R (.ok .next) { s₂ with heap := h', toks := tk }) :
    codeAny (model prog w) A (.compLoop (two (.Name x2 p4) (.Name x1 p1) i1 (.Name x2 p3) (.Name x1 p2) scope pos) 0 (.ref I) (.ref D) (compEnvC scope cl C env)) R s₂ := by
  have hlI : l ≠ I := (off _ hl).1
  have W := Walks.list (prog := prog) (w := w) hh I l hlI vs.toArray
  rw [List.size_toArray] at W
  have islist : ∀ {h : Heap} {d : Addr} {ws : List Value} {kd : Nat}, News h₀ L h news → (d, listOf ws.toArray kd) ∈ news → h.IsList d ws.toArray := fun Nn hm => PySem.IsL.isList (Nn _ hm).1
  refine loop_outer
    (fun k s' => ∃ h' tk i m', s' = { s₂ with heap := h', toks := tk } ∧ i ≤ vs.length ∧ k = vs.length + 1 - i ∧ h'.IsListIter I l i ∧ Fr h₀ L h' m ∧ h'.Ns C m' ∧ News h₀ L h' ((D, lst (wss.take i).flatten) :: news)) ?_ (vs.length + 1)
    ⟨s₂.heap, s₂.toks, 0, m1, rfl, Nat.zero_le _, rfl, hit, F, hCn, N⟩ (hs := hfs)
  intro kk s' hp'1
  refine Classical.byContradiction fun hG' => ?_
  obtain ⟨h', tk, i, m', rfl, hi, rfl, hit', F', hn', N'⟩ := hp'1
  refine hG' ?_
  clear hG'
  have Nn' : News h₀ L h' news := fun p hp => N' p (.tail _ hp)
  have hls' := islist Nn' hl
  by_cases hlt : i < vs.length
  · refine W.item i _ _ _ hlt ⟨hit', hls'⟩ fun v h₂ tk₂ hPv hst₂ hk₂ => ?_
    have hk₂' : ∀ b o, b ≠ I → h'.get? b = some o → h₂.get? b = some o := fun b o hb e => hk₂ b o (by simpa using hb) e
    have hv : vs[i]? = some v := by simpa using hPv
    refine Classical.byContradiction fun hG' => ?_
    obtain ⟨d, ws, kd, rfl, hws, hd⟩ := hr.at hv
    refine hG' ?_
    clear hG'
    refine wpAny_assign_Name (wpAny_storeName_local (lookup_relabel_local hx1) (hn'.at' fun o e => hk₂' _ o hCI e) (fun h₃ hn₃ hs₃ => ?_) (by simp [compEnvC, relabel, hkind]))
    have hkk : ∀ b o, b ≠ I → b ≠ C → h'.get? b = some o → h₃.get? b = some o := fun b o hb hc e => hs₃.extBut b o hc (hk₂' b o hb e)
    have hit₃ : h₃.IsListIter I l (i + 1) := hst₂.1.at fun o e => hs₃.extBut _ o (Ne.symm hCI) e
    have F₃ : Fr h₀ L h₃ m := ⟨F'.ns.at' fun o e => hkk L o (Ne.symm hIL) (Ne.symm hCL) e, fun b o e => hkk b o (fun q => by rw [q, hI₀] at e; cases e) (fun q => by rw [q, hC₀] at e; cases e) (F'.keep b o e), F'.above⟩
    have N₃ : News h₀ L h₃ ((D, lst (wss.take i).flatten) :: news) := fun p hp => by
      have z := N' p hp
      refine ⟨hkk _ _ ?_ ?_ z.1, z.2⟩
      · rcases List.mem_cons.mp hp with rfl | hp
        · exact hDI
        · exact (off p hp).1
      · rcases List.mem_cons.mp hp with rfl | hp
        · exact Ne.symm hCD
        · exact (off p hp).2.1
    refine wpAny_Name (wpAny_loadName_local (by simp [compEnvC, relabel, hkind]) (lookup_relabel_local hx1) hn₃ (v := .ref d) (by simp) ?_) hb1
    have Nn₃ : News h₀ L h₃ news := fun p hp => N₃ p (.tail _ hp)
    refine wpAny_pyIter_list (islist Nn₃ hd) ?_
    refine Classical.byContradiction fun hG' => ?_
    obtain ⟨h4, hh4⟩ : ∃ h4, h4 = h₃.push { cls := .type "list_iterator", data := .fields #[.ref d, .int 0 0] } := ⟨_, rfl⟩
    obtain ⟨I2, hI2⟩ : ∃ I2 : Addr, I2 = h₃.objs.size := ⟨_, rfl⟩
    refine hG' ?_
    clear hG'
    have push : ∀ b o, h₃.get? b = some o → h4.get? b = some o := fun b o e => by rw [hh4]; exact Heap.get?_push_of_some _ e
    have nI2 : ∀ b o, h₃.get? b = some o → b ≠ I2 := fun b o e => by rw [hI2]; exact Nat.ne_of_lt (Heap.lt_size e)
    have hI2₀ : h₀.get? I2 = none := by
      cases e : h₀.get? I2 with
      | none => rfl
      | some o => exact absurd rfl (nI2 _ _ (F₃.keep _ _ e))
    obtain ⟨oL, heL⟩ : ∃ o, h₃.get? L = some o := by
      refine Classical.byContradiction fun hG' => ?_
      obtain ⟨o, _, _, e, _⟩ := F₃.ns
      refine hG' ?_
      clear hG'
      exact ⟨o, e⟩
    obtain ⟨oC, heC⟩ : ∃ o, h₃.get? C = some o := by
      refine Classical.byContradiction fun hG' => ?_
      obtain ⟨o, _, _, e, _⟩ := hn₃
      refine hG' ?_
      clear hG'
      exact ⟨o, e⟩
    have hLI2 := nI2 _ _ heL
    have hCI2 := nI2 _ _ heC
    have hDI2 := nI2 _ _ (N₃ _ (.head _)).1
    have hdI2 := nI2 _ _ (Nn₃ _ hd).1
    obtain ⟨oI, heI⟩ : ∃ o, h₃.get? I = some o := by
      obtain ⟨o, e, _⟩ := hit₃
      exact ⟨o, e⟩
    have hII2 := nI2 _ _ heI
    have hit4 : h4.IsListIter I2 d 0 := by rw [hh4, hI2]; exact ⟨_, Heap.get?_push_size _ rfl, rfl, rfl⟩
    have F₄ : Fr h₀ L h4 m := F₃.keeps push
    have Nn₄ : News h₀ L h4 news := fun p hp => ⟨push _ _ (Nn₃ p hp).1, (Nn₃ p hp).2⟩
    have W2 := Walks.list (prog := prog) (w := w) hh I2 d hdI2 ws.toArray
    have hfl := flat_take hws
    have hle := flat_le (wss := wss) (i + 1)
    rw [hfl, List.length_append] at hle
    rw [← hh4, ← hI2]
    refine (fun key => start_inner key (W2.self 0 _ _ _ ⟨hit4, islist Nn₄ hd⟩ key)) ?_
    refine inner_ok (m := _) (ys := (wss.take i).flatten) (K := fun h => Fr h₀ L h m ∧ News h₀ L h news ∧ h.IsListIter I l (i + 1)) hh hdI2 (off _ hd).2.1 (off _ hd).2.2 hCI2 hDI2 hCD ?_ hx2 hkind hb2 hit4 (islist Nn₄ hd) (hn₃.at' fun o e => push _ _ e) (push _ _ (N₃ _ (.head _)).1) ⟨F₄, Nn₄, hit₃.at fun o e => push _ _ e⟩ (Nat.le_trans hle hsz) ?_
    · intro h h'' hp'1 hk
      refine Classical.byContradiction fun hG' => ?_
      obtain ⟨k1, k2, k3⟩ := hp'1
      refine hG' ?_
      clear hG'
      refine ⟨⟨k1.ns.at' fun o e => hk L o hLI2 (Ne.symm hCL) (Ne.symm hDL) e, fun b o e => hk b o (fun q => by rw [q, hI2₀] at e; cases e) (fun q => by rw [q, hC₀] at e; cases e) (fun q => by rw [q, hD₀] at e; cases e) (k1.keep b o e), k1.above⟩, fun p hp => ⟨hk _ _ (nI2 _ _ (Nn₃ p hp).1) (off p hp).2.1 (off p hp).2.2 (k2 p hp).1, (k2 p hp).2⟩, k3.at fun o e => hk I o hII2 (Ne.symm hCI) (Ne.symm hDI) e⟩
    · intro h5 tk5 m5 hp'1 hn5 hD5 _
      refine Classical.byContradiction fun hG' => ?_
      obtain ⟨k1, k2, k3⟩ := hp'1
      refine hG' ?_
      clear hG'
      refine ⟨vs.length + 1 - (i + 1), by omega, h5, tk5, i + 1, m5, rfl, hlt, rfl, k3, k1, hn5, fun p hp => ?_⟩
      rcases List.mem_cons.mp hp with rfl | hp
      · rw [hfl]
        exact ⟨hD5, hDL, hD₀⟩
      · exact k2 p hp
  · obtain rfl : i = vs.length := Nat.le_antisymm hi (Nat.not_lt.mp hlt)
    refine W.done _ _ _ ⟨hit', hls'⟩ fun h₂ tk₂ hk₂ => ?_
    have hk₂' : ∀ b o, b ≠ I → h'.get? b = some o → h₂.get? b = some o := fun b o hb e => hk₂ b o (by simpa using hb) e
    refine fin h₂ tk₂ m' ⟨F'.ns.at' fun o e => hk₂' L o (Ne.symm hIL) e, fun b o e => hk₂' b o (fun q => by rw [q, hI₀] at e; cases e) (F'.keep b o e), F'.above⟩ (fun p hp => ?_) (hn'.at' fun o e => hk₂' _ o hCI e)
    rw [hr.length, List.take_length] at N'
    have z := N' p hp
    refine ⟨hk₂' _ _ ?_ z.1, z.2⟩
    rcases List.mem_cons.mp hp with rfl | hp
    · exact hDI
    · exact (off p hp).1
end
end Mine
end
section
open PySem PySem.W PyProof.Rows PySem.Calls
open PyProof.Rows.LCg
set_option maxRecDepth 100000
namespace Mine
section
variable {prog : Program} {w : World} {A : Around} {E : Value → Shared → Prop} {s : Shared} {i1 : Expr} {scope : Scope} {cl : List (Str × Addr)} {pos p1 p2 p3 p4 : Pos} {env : Env} {x1 x2 : Str} {h₀ : Heap} {L : Addr} {m : Str → Option Value}
noncomputable def SrcTwo (A : Around) (h₀ : Heap) (L : Addr) (m : Str → Option Value) (Q : Value → Shared → Prop) (xv : Value) (s₁ : Shared) : Prop :=
  ∃ l k vs wss news, xv = .ref l ∧ A.handled = none ∧ Fr h₀ L s₁.heap m ∧ News h₀ L s₁.heap news ∧ (l, listOf (List.toArray vs) k) ∈ news ∧ RowsV news vs wss ∧ wss.flatten.length ≤ sizeLine ∧
    ∀ D h tk, Fr h₀ L h m → News h₀ L h ((D, lst wss.flatten) :: news) → (∀ p ∈ news, p.1 ≠ D) → Q (.ref D) { s₁ with heap := h, toks := tk }
theorem ListComp_two {Q : Value → Shared → Prop} (hclos : closureFor scope env = pure cl) (hcell : ∀ y ∈ scope.names, y.2 ≠ .cell) (hkind : scope.kind = .function)
    (hnames : ∀ y ∈ scope.names, y.2 = .local → scope.names.lookup y.1 = some .local) (hx1 : scope.names.lookup x1 = some .local) (hx2 : scope.names.lookup x2 = some .local) (hb1 : (x1 == ("__debug__" : Str)) = false) (hb2 : (x2 == ("__debug__" : Str)) = false)
    (h : wpAny (model prog w) A (eval i1 env) (SrcTwo A h₀ L m Q) E s)
    (hs : ∀ x, foldedSetIterable i1 env x = pure x := by intro _; rfl) (hfs : ∀ C x, foldedSetIterable (.Name x1 p2) (compEnvC scope cl C env) x = pure x := by intro _ _; rfl) :
    wpAny (model prog w) A (eval (two (.Name x2 p4) (.Name x1 p1) i1 (.Name x2 p3) (.Name x1 p2) scope pos) env) Q E s := by
  rw [eval_ListComp]
  refine wpAny_comprehension_free (use := none) rfl hs hclos hkind hnames (wpAny_mono h (fun xv s₁ h₁ => ?_) fun _ _ e => e)
  refine Classical.byContradiction fun hG' => ?_
  obtain ⟨l, k, vs, wss, news, rfl, hh, F, N, hl, hr, hsz, fin⟩ := h₁
  refine hG' ?_
  clear hG'
  have hls : s₁.heap.IsList l vs.toArray := PySem.IsL.isList (n := k) (N _ hl).1
  refine wpAny_pyIter_list hls ?_
  refine Classical.byContradiction fun hG' => ?_
  obtain ⟨hI, hhI⟩ : ∃ hI, hI = s₁.heap.push { cls := .type "list_iterator", data := .fields #[.ref l, .int 0 0] } := ⟨_, rfl⟩
  obtain ⟨I, hIe⟩ : ∃ I : Addr, I = s₁.heap.objs.size := ⟨_, rfl⟩
  refine hG' ?_
  clear hG'
  rw [← hhI, ← hIe]
  refine wpAny_newObj_type (wpAny_newFunctionEnv hcell (by intro y hy; simp at hy) (fun h₁ hns₁ hsb₁ => ?_) hkind)
  dsimp only at hns₁ hsb₁ ⊢
  generalize hH2 : hI.push { cls := .type "list", dict := none, data := .seq ([] : List Value).toArray } = H2 at hns₁ hsb₁ ⊢
  have sI : hI.objs.size = s₁.heap.objs.size + 1 := by rw [hhI, Heap.size_push]
  have sC : H2.objs.size = s₁.heap.objs.size + 1 + 1 := by rw [← hH2, Heap.size_push, sI]
  refine Classical.byContradiction fun hG' => ?_
  obtain ⟨D, hDe⟩ : ∃ D : Addr, D = hI.objs.size := ⟨_, rfl⟩
  obtain ⟨C, hCe⟩ : ∃ C : Addr, C = H2.objs.size := ⟨_, rfl⟩
  refine hG' ?_
  clear hG'
  rw [← hDe, ← hCe]
  rw [← hCe] at hns₁ hsb₁
  have lt : ∀ b o, s₁.heap.get? b = some o → @LT.lt Nat _ b s₁.heap.objs.size := fun b o e => Heap.lt_size e
  have pI : ∀ b o, s₁.heap.get? b = some o → hI.get? b = some o := fun b o e => by rw [hhI]; exact Heap.get?_push_of_some _ e
  have p2 : ∀ b o, hI.get? b = some o → H2.get? b = some o := fun b o e => by rw [← hH2]; exact Heap.get?_push_of_some _ e
  have old : ∀ b o, s₁.heap.get? b = some o → h₁.get? b = some o := fun b o e => hsb₁.extBut b o (fun q => by have := lt b o e; rw [q, hCe, sC] at this; omega) (Heap.get?_push_of_some _ (p2 _ _ (pI _ _ e)))
  have fresh : ∀ a : Addr, @LE.le Nat _ s₁.heap.objs.size a → h₀.get? a = none := fun a ha => by
    cases e : h₀.get? a with
    | none => rfl
    | some o' =>
      have := lt _ _ (F.keep a o' e)
      exact absurd this (Nat.not_lt.mpr ha)
  have hLlt : @LT.lt Nat _ L s₁.heap.objs.size := F.ns.lt
  have hCD : @Ne Nat C D := by rw [hCe, hDe, sC, sI]; omega
  have hCI : @Ne Nat C I := by rw [hCe, hIe, sC]; omega
  have hDI : @Ne Nat D I := by rw [hDe, hIe, sI]; omega
  have hCL : @Ne Nat C L := by rw [hCe, sC]; omega
  have hDL : @Ne Nat D L := by rw [hDe, sI]; omega
  have hIL : @Ne Nat I L := by rw [hIe]; omega
  have hC₀ := fresh C (by rw [hCe, sC]; omega)
  have hD₀ := fresh D (by rw [hDe, sI]; omega)
  have hI₀ := fresh I (by rw [hIe]; exact Nat.le_refl _)
  have off : ∀ p ∈ news, p.1 ≠ I ∧ p.1 ≠ C ∧ p.1 ≠ D := fun p hp => by
    have z : @LT.lt Nat _ p.1 s₁.heap.objs.size := lt _ _ (N p hp).1
    refine ⟨?_, ?_, ?_⟩
    · show @Ne Nat _ _; rw [hIe]; omega
    · show @Ne Nat _ _; rw [hCe, sC]; omega
    · show @Ne Nat _ _; rw [hDe, sI]; omega
  have hit0 : hI.IsListIter I l 0 := by rw [hhI, hIe]; exact ⟨_, Heap.get?_push_size _ rfl, rfl, rfl⟩
  have hit1 : h₁.IsListIter I l 0 := hit0.at fun o e => hsb₁.extBut _ o (Ne.symm hCI) (Heap.get?_push_of_some _ (p2 _ _ e))
  have hacc : h₁.get? D = some (lst []) := hsb₁.extBut _ _ (Ne.symm hCD) (Heap.get?_push_of_some _ (by rw [← hH2, hDe]; exact Heap.get?_push_size _ rfl))
  have N₁ : News h₀ L h₁ ((D, lst []) :: news) := fun p hp => by
    rcases List.mem_cons.mp hp with rfl | hp
    · exact ⟨hacc, hDL, hD₀⟩
    · exact ⟨old _ _ (N p hp).1, (N p hp).2⟩
  have hls1 : h₁.IsList l vs.toArray := hls.at fun o e => old _ o e
  have W := Walks.list (prog := prog) (w := w) hh I l (off _ hl).1 vs.toArray
  refine (fun key => codeAny_compStart_list key (W.self 0 _ _ _ ⟨hit1, hls1⟩ key)) ?_
  refine outer_ok (m1 := _) hh hx1 hx2 hkind hb1 hb2 (hfs C) hl hr hsz hC₀ hD₀ hI₀ hCL hDL hIL hCD hCI hDI off (F.keeps old) N₁ hit1 hns₁ ?_
  intro h' tk m' F' N' hn'
  refine ⟨m', hn', fun h'' hs'' => ?_⟩
  refine fin D h'' tk (F'.change hs'' hCL hC₀) (fun p hp => ?_) fun p hp => (off p hp).2.2
  refine ⟨hs''.extBut _ _ ?_ (N' p hp).1, (N' p hp).2⟩
  rcases List.mem_cons.mp hp with rfl | hp
  · exact Ne.symm hCD
  · exact (off p hp).2.1
end
end Mine
end
section
open PySem PySem.W PyProof.Rows PySem.Calls
set_option maxRecDepth 100000
namespace Mine
noncomputable def perm18 : List Nat := [2, 1, 0, 5, 4, 3, 8, 7, 6, 11, 10, 9, 14, 13, 12, 17, 16, 15]
noncomputable def bslIn (b : List UInt8) (w q : Nat) (acc : List UInt8) : Nat → List UInt8
  | 0 => acc
  | j + 1 => (bslIn b w q acc j).set (q * w + w - 1 - j) (b.getD (q * w + j) 0)
noncomputable def bslOut (b : List UInt8) (w : Nat) : Nat → List UInt8
  | 0 => List.replicate b.length 0
  | q + 1 => bslIn b w q (bslOut b w q) w
theorem bsl_in (b : Array UInt8) (w q : Nat) (acc : Array UInt8) : ∀ j, (bswIn b w q acc j).toList = bslIn b.toList w q acc.toList j
  | 0 => rfl
  | j + 1 => by
    rw [bswIn, bslIn, ← bsl_in b w q acc j, Array.toList_setIfInBounds]
    congr 1
    rw [Array.getD_eq_getD_getElem?, List.getD_eq_getElem?_getD, Array.getElem?_toList]
theorem bsl_out (b : Array UInt8) (w : Nat) : ∀ q, (bswOut b w q).toList = bslOut b.toList w q
  | 0 => by rw [bswOut, bslOut, Array.toList_replicate, Array.length_toList]
  | q + 1 => by rw [bswOut, bslOut, bsl_in, bsl_out b w q]
theorem list18 {l : List UInt8} (h : l.length = 18) : ∃ f : Nat → UInt8, l = [f 0, f 1, f 2, f 3, f 4, f 5, f 6, f 7, f 8, f 9, f 10, f 11, f 12, f 13, f 14, f 15, f 16, f 17] := by
  refine ⟨fun i => l.getD i 0, ?_⟩
  have e : l = (List.range 18).map fun i => l.getD i 0 := by
    refine List.ext_getElem (by rw [List.length_map, List.length_range, h]) fun i h1 h2 => ?_
    rw [List.getElem_map, List.getElem_range, List.getD_eq_getElem?_getD, List.getElem?_eq_getElem h1]
    rfl
  exact e
theorem bslIn3 (b acc : List UInt8) (q : Nat) : bslIn b 3 q acc 3 = ((acc.set (q * 3 + 2) (b.getD (q * 3) 0)).set (q * 3 + 1) (b.getD (q * 3 + 1) 0)).set (q * 3) (b.getD (q * 3 + 2) 0) := rfl
theorem bslOut18 (f : Nat → UInt8) : bslOut [f 0, f 1, f 2, f 3, f 4, f 5, f 6, f 7, f 8, f 9, f 10, f 11, f 12, f 13, f 14, f 15, f 16, f 17] 3 6 = [f 2, f 1, f 0, f 5, f 4, f 3, f 8, f 7, f 6, f 11, f 10, f 9, f 14, f 13, f 12, f 17, f 16, f 15] := by
  have e0 : bslOut [f 0, f 1, f 2, f 3, f 4, f 5, f 6, f 7, f 8, f 9, f 10, f 11, f 12, f 13, f 14, f 15, f 16, f 17] 3 0 = [0, 0, 0, 0, 0, 0, 0, 0, 0, 0, 0, 0, 0, 0, 0, 0, 0, 0] := rfl
  have st : ∀ q, bslOut [f 0, f 1, f 2, f 3, f 4, f 5, f 6, f 7, f 8, f 9, f 10, f 11, f 12, f 13, f 14, f 15, f 16, f 17] 3 (q + 1) = bslIn _ 3 q (bslOut [f 0, f 1, f 2, f 3, f 4, f 5, f 6, f 7, f 8, f 9, f 10, f 11, f 12, f 13, f 14, f 15, f 16, f 17] 3 q) 3 := fun _ => rfl
  rw [st 5, st 4, st 3, st 2, st 1, st 0, e0]
  simp only [bslIn3, Nat.reduceMul, Nat.reduceAdd, List.set_cons_succ, List.set_cons_zero, List.getD_cons_succ, List.getD_cons_zero]
theorem bsw3 {b : Array UInt8} (h : b.size = 18) : PySem.W.KBw.bInts (bswOut b 3 6) = perm18.map fun i => (PySem.W.KBw.bInts b).getD i 0 := by
  unfold PySem.W.KBw.bInts
  rw [bsl_out]
  obtain ⟨f, hf⟩ := list18 (l := b.toList) (by rw [Array.length_toList, h])
  rw [hf, bslOut18]
  simp only [perm18, List.map_cons, List.map_nil, List.getD_cons_succ, List.getD_cons_zero]
theorem ring18 {c6 : List Int} {d3 : Int → List Int} (h3 : ∀ c, ∃ x y z, d3 c = [x, y, z]) (h : c6.length = 6) : (perm18.map fun i => ((c6.map d3).reverse.flatten).getD i 0) = octL (c6.map d3) := by
  match c6, h with
  | [a, b, c, d, e, f], _ =>
    obtain ⟨a0, a1, a2, ha⟩ := h3 a
    obtain ⟨b0, b1, b2, hb⟩ := h3 b
    obtain ⟨c0, c1, c2, hc⟩ := h3 c
    obtain ⟨d0, d1, d2, hd⟩ := h3 d
    obtain ⟨e0, e1, e2, he⟩ := h3 e
    obtain ⟨f0, f1, f2, hf⟩ := h3 f
    simp only [List.map_cons, List.map_nil, ha, hb, hc, hd, he, hf]
    rfl
theorem bsw_octL {b : Array UInt8} {c6 : List Int} {d3 : Int → List Int} (h3 : ∀ c, ∃ x y z, d3 c = [x, y, z]) (h : c6.length = 6) (hb : PySem.W.KBw.bInts b = (c6.map d3).reverse.flatten) (hs : b.size = 18) : PySem.W.KBw.bInts (bswOut b 3 6) = octL (c6.map d3) := by
  rw [bsw3 hs, hb, ring18 h3 h]
end Mine
end
section
open PySem PySem.W PyProof.Rows PySem.Calls
set_option maxRecDepth 100000
namespace Mine
noncomputable def digs3 (c : Int) : List Int := [c % 10, c / 10 % 10, c / 100 % 10]
theorem digs3_rng {c : Int} : ∀ d ∈ digs3 c, 0 ≤ d ∧ d ≤ 9 := by
  intro d hd
  simp only [digs3, List.mem_cons, List.not_mem_nil, or_false] at hd
  rcases hd with rfl | rfl | rfl <;> omega
theorem oct_rng {c6 : List Int} : ∀ n ∈ (c6.map digs3).reverse.flatten, 0 ≤ n ∧ n < 256 := by
  intro n hn
  obtain ⟨l, hl, hn⟩ := List.mem_flatten.mp hn
  obtain ⟨c, _, rfl⟩ := List.mem_map.mp (List.mem_reverse.mp hl)
  have := digs3_rng n hn
  omega
theorem digs3_upto (c : Int) : Upto 9 (digs3 c) := by
  exact ⟨rfl, digs3_rng _ (.head _), digs3_rng _ (.tail _ (.head _)), digs3_rng _ (.tail _ (.tail _ (.head _)))⟩
theorem ring_upto {c6 : List Int} (h : c6.length = 6) : ∀ i, i < 6 → Upto 9 ((c6.map digs3).getD i []) := by
  intro i hi
  have hi6 : i < c6.length := by omega
  rw [List.getD_eq_getElem?_getD, List.getElem?_map, List.getElem?_eq_getElem hi6]
  exact digs3_upto _
theorem ring_nine {c6 : List Int} (h : c6.length = 6) : Nine (c6.map digs3) := fun i hi => (ring_upto h i hi).2
theorem bs_oct (w : World) (loose mean mg mb) (T : Led) (b : Array UInt8) (t1 t2 : Tok) (c6 : List Int) (hl : c6.length = 6) (hb : b.size = 18) (hi : PySem.W.KBw.bInts b = (c6.map digs3).reverse.flatten) :
   SpecX PySem.Challenge.pw_wf0044_02 w (Mine.hd.heap_39 w.params) topProg loose mean mg mb 5 20 21 [.bytes b t1, .int 3 t2] T (fun v new => ∃ b' t, v = .bytes b' t ∧ PySem.W.KBw.bInts b' = octL (c6.map digs3) ∧ new = []) := by
  have h := bs_spec w loose mean mg mb T b 3 t1 t2 (by omega) (by decide) 6 (by omega)
  have e := bsw_octL (b := b) (c6 := c6) (d3 := digs3) (fun c => ⟨_, _, _, rfl⟩) hl hi hb
  intro dp un gd cn cs a ccd cl outer A₀ base h₀ L m s Q E B F X N Tp hk hd hu hret
  refine h dp un gd cn cs a ccd cl outer A₀ base h₀ L m s Q E B F X N Tp hk hd hu fun r new h' tk' F' N' l' hp => ?_
  obtain ⟨t, rfl, rfl⟩ := hp
  exact hret _ _ _ _ F' N' l' ⟨_, t, rfl, e, rfl⟩
end Mine
end
section
open PySem PySem.W PyProof.Rows PySem.Calls PySem.SeqAt
set_option maxRecDepth 100000
namespace Mine
noncomputable def rowsD (xss : List (List Int)) : List PyData := xss.map fun xs => .list (xs.map PyData.int)
theorem can_rows : ∀ xss : List (List Int), PyData.canLayAll0 (rowsD xss) = true
  | [] => by simp [rowsD, PyData.canLayAll0]
  | xs :: r => by
    have h := can_rows r
    unfold rowsD at h ⊢
    simp only [List.map_cons, PyData.canLayAll0, PyData.canLay0, ke_canLayAll0, Bool.true_and]
    exact h
theorem depth_rows : ∀ xss : List (List Int), PyData.depthAll (rowsD xss) ≤ 1
  | [] => by simp [rowsD, PyData.depthAll]
  | xs :: r => by
    have h := depth_rows r
    unfold rowsD at h ⊢
    simp only [List.map_cons, PyData.depthAll, PyData.depth, ke_depthAll]
    omega
theorem shaped_rows (xss : List (List Int)) : shaped (.list (rowsD xss)) = true := by
  have h := depth_rows xss
  unfold shaped
  simp only [PyData.canLay0, PyData.depth, can_rows, Bool.true_and]
  exact decide_eq_true (by omega)
theorem reads_rows {h₀ h : Heap} {L : Addr} {T : Led} {vs : List Value} {xss : List (List Int)} (N : News h₀ L h T) (r : RowsIn T vs xss) : ∃ as, ReadsAll h vs (rowsD xss) as := by
  induction r with
  | nil => exact ⟨[], .nil⟩
  | cons a _ ih =>
    obtain ⟨as, ha⟩ := ih
    obtain ⟨d, ws, k, rfl, hm, hi⟩ := a
    exact ⟨_, .cons (reads_of_ints (PySem.IsL.isList (n := k) (N _ hm).1) hi) ha⟩
theorem eqrows_T {prog : Program} {w : World} {A : Around} {E : Value → Shared → Prop} {s : Shared} {h₀ : Heap} {L : Addr} {news : Led} {l l' : Addr} {vs vs' : List Value} {xss : List (List Int)} {k k' : Nat} {Q : Value → Shared → Prop} (N : News h₀ L s.heap news) (hl : (l, listOf vs.toArray k) ∈ news) (hl' : (l', listOf vs'.toArray k') ∈ news) (hi : RowsIn news vs xss) (hj : RowsIn news vs' xss) (hu : A.units + 64 < cLine) (h : Q (.bool true) s) :
    wpAny (model prog w) A (compareOp .Eq (.ref l) (.ref l')) Q E s := by
  obtain ⟨as, ra⟩ := reads_rows N hi
  obtain ⟨bs, rb⟩ := reads_rows N hj
  obtain ⟨o, ho, hc, n, hd⟩ := PySem.IsL.isList (n := k) (N _ hl).1
  obtain ⟨o', ho', hc', n', hd'⟩ := PySem.IsL.isList (n := k') (N _ hl').1
  exact eq_dataH (Reads.list ho hc hd (by simpa using ra)) (Reads.list ho' hc' hd' (by simpa using rb)) (shaped_rows xss) (shaped_rows xss) hu (by rw [eqv_refl _ (by simp only [PyData.canLay0, can_rows])]; exact h)
end Mine
end
section
open PySem PySem.W PyProof.Rows PySem.Calls
open PyProof.Rows.LCg
set_option maxRecDepth 100000
namespace Mine
local macro_rules | `(tactic| k_mem) => `(tactic| first | exact List.Mem.head _ | with_reducible assumption | (apply List.Mem.tail; k_mem))
local macro_rules | `(tactic| walk_at "call ref") => `(tactic| (k_here; refine Stop.mk ?_))
local macro_rules | `(tactic| walk_at "eval ListComp") => `(tactic| (k_here; refine Stop.mk ?_))
local macro_rules | `(tactic| walk_at "exec Assign cons ListComp") => `(tactic| (k_here; refine Stop.mk ?_))
local macro_rules | `(tactic| walk_at "pyIter ref") => `(tactic| (k_here; refine Stop.mk ?_))
local macro_rules | `(tactic| walk_at "CompEnd") => `(tactic| (refine Stop.mk ?_))
local macro_rules | `(tactic| walk_at "binaryOp Add ref ref") => `(tactic| (k_here; refine Stop.mk ?_))
local macro_rules | `(tactic| walk_at "call builtin:len") => `(tactic| (k_here; refine Stop.mk ?_))
local macro_rules | `(tactic| walk_at "subscriptTail List cons Slice ref ref") => `(tactic| (k_here; refine Stop.mk ?_))
local macro_rules | `(tactic| walk_at "subscriptTail") => `(tactic| (k_here; refine Stop.mk ?_))
local macro_rules | `(tactic| walk_at "subscriptTail Name Constant ref int") => `(tactic| (k_here; refine Stop.mk ?_))
local macro_rules | `(tactic| walk_at "subscriptTail List BinOp ref int") => `(tactic| (k_here; refine Stop.mk ?_))
local macro_rules | `(tactic| walk_at "call builtin:sum") => `(tactic| (k_here; refine Stop.mk ?_))
theorem ints_drop' {vs : List Value} {ns : List Int} (h : IntsAre vs ns) : ∀ j, IntsAre (vs.drop j) (ns.drop j) := by
  induction h with
  | nil => intro j; rw [List.drop_nil, List.drop_nil]; exact .nil
  | cons n t r ih =>
    intro j
    cases j with
    | zero => exact .cons n t r
    | succ j => exact ih j
theorem cells_seven {ys : List Value} {d7 : List Int} {t0 t1 t2 t3 t4 t5 t6 : Tok} (hys : IntsAre ys (d7.map fun c => c % 1000000)) (hyl : ys.length ≤ 7) :
    ∃ cs, IntsAre (ys ++ List.drop ys.length [.int 1 t0, .int 20 t1, .int 300 t2, .int 12 t3, .int 403 t4, .int 51 t5, .int 2 t6]) cs ∧ cs.length = 7 ∧ ∀ c ∈ cs, 0 ≤ c ∧ c < 1000000 := by
  have hr : IntsAre [.int 1 t0, .int 20 t1, .int 300 t2, .int 12 t3, .int 403 t4, .int 51 t5, .int 2 t6] [1, 20, 300, 12, 403, 51, 2] := .cons _ _ (.cons _ _ (.cons _ _ (.cons _ _ (.cons _ _ (.cons _ _ (.cons _ _ .nil))))))
  refine ⟨_, hys.append (ints_drop' hr ys.length), ?_, ?_⟩
  · have := hys.length
    rw [List.length_append, List.length_drop, ← this]
    simp only [List.length_cons, List.length_nil]
    omega
  · intro c hc
    rcases List.mem_append.mp hc with hc | hc
    · obtain ⟨x, _, rfl⟩ := List.mem_map.mp hc
      omega
    · have := List.mem_of_mem_drop hc
      simp only [List.mem_cons, List.not_mem_nil, or_false] at this
      rcases this with rfl | rfl | rfl | rfl | rfl | rfl | rfl <;> decide
theorem with_led' {h₀ h : Heap} {L : Addr} {T : Led} {G : Prop} (N : News h₀ L h T) (k : ∀ W, W = T → News h₀ L h W → G) : G := k T rfl N
theorem digs3_f (c : Int) : [c.fmod 10, (c.fdiv 10).fmod 10, (c.fdiv 100).fmod 10] = digs3 c := by
  unfold digs3
  rw [Int.fmod_eq_emod_of_nonneg _ (by decide), Int.fmod_eq_emod_of_nonneg _ (by decide), Int.fmod_eq_emod_of_nonneg _ (by decide), Int.fdiv_eq_ediv_of_nonneg _ (by decide), Int.fdiv_eq_ediv_of_nonneg _ (by decide)]
theorem take_snoc' {l : List Int} {i : Nat} {c : Int} (h : l[i]? = some c) : l.take (i + 1) = l.take i ++ [c] := by
  rw [List.take_add_one, h, Option.toList_some]
theorem getD_rng' {l : List Int} {a b : Int} (h : ∀ x ∈ l, a ≤ x ∧ x < b) (z : a ≤ 0 ∧ 0 < b) (i : Nat) : a ≤ l.getD i 0 ∧ l.getD i 0 < b := by
  rw [List.getD_eq_getElem?_getD]
  cases e : l[i]? with
  | none => exact z
  | some x => exact h x (List.mem_of_getElem? e)
theorem isi_bytes {prog : Program} {w : World} {A : Around} {Q : Value → Shared → Prop} {E : Value → Shared → Prop} {s : Shared} {y : Array UInt8} {u : Tok} (h : ∀ tk, Q (.bool true) { s with toks := tk }) : wpAny (model prog w) A (call (.builtin "isinstance") [.bytes y u, .type "bytes"]) Q E s :=
  kia_one (K := []) (x := .bytes y u) kitx_bytes (fun _ _ h => by cases h) trivial (b := true) (by unfold kitOne; exact if_pos (by rfl)) (fun q => by cases q) h
local macro_rules | `(tactic| walk_at "call builtin:isinstance") => `(tactic| (k_here; refine isi_bytes ?_; intro _))
local macro_rules | `(tactic| walk_at "call type:bytes") => `(tactic| (k_here; refine Stop.mk ?_))
theorem sub16 {a b c : Addr × Obj} {Wt LED R Tb : Led} (h : LED = R ++ Tb) : ∀ p ∈ (c :: R) ++ Tb, p ∈ a :: b :: c :: (Wt ++ LED) := by
  intro p hp
  rw [h]
  simp only [List.mem_append, List.mem_cons, List.cons_append] at hp ⊢
  rcases hp with hp | hp | hp <;> simp [hp]
theorem wheel_three {n : Nat} {ring : List (List Int)} (hl : ring.length = 6) (h : ∀ i, i < 6 → Upto 9 (ring.getD i [])) : ∀ (i : Nat) (xs : List Int), (wheelAll (turnsL n) ring)[i]? = some xs → xs.length = 3 := by
  intro i xs hxs
  have hi : i < 6 := by
    have := (List.getElem?_eq_some_iff.mp hxs).1
    rw [wheelAll_len _ _ hl] at this
    exact this
  have := (wheelAll_upto (turns_at n).2.1 h 5 i hi).1
  rw [List.take_of_length_le (by rw [(turns_at n).2.2.1]; exact Nat.le_refl _), List.getD_eq_getElem?_getD, hxs] at this
  exact this
theorem sub_new (a b c d : Addr × Obj) (W : Led) : ∀ p ∈ a :: b :: c :: d :: W, p ∈ d :: a :: b :: c :: W := by
  intro p hp
  simp only [List.mem_cons] at hp ⊢
  rcases hp with hp | hp | hp | hp | hp <;> simp [hp]
theorem take_snocR {l : List (List Int)} {i : Nat} {c : List Int} (h : l[i]? = some c) : l.take (i + 1) = l.take i ++ [c] := by
  rw [List.take_add_one, h, Option.toList_some]
theorem figs_three (w : Nat) (x : Int) : (figsOf w x).length = 6 ∧ ∀ (i : Nat) (xs : List Int), (figsOf w x)[i]? = some xs → xs.length = 3 := by
  unfold figsOf
  refine ⟨by rw [List.length_reverse, List.length_map, digs_len], fun i xs hxs => ?_⟩
  obtain ⟨n, _, rfl⟩ := List.mem_map.mp (List.mem_reverse.mp (List.mem_of_getElem? hxs))
  rw [List.length_reverse, digs_len]
local macro_rules | `(tactic| walk_at "compareOp Eq ref ref") => `(tactic| (k_here; refine Stop.mk ?_))
theorem grown_tab {h₀ h : Heap} {L P : Addr} {li co : Nat} {q : Str} {A news : Led} (T : TabOk P li co q A) (N : News h₀ L h news) (hs : ∀ p ∈ A, p ∈ news) : GrownAt P h := by
  rcases T with rfl | ⟨c', oc, vs, t, rfl, _, _⟩
  · exact GrownAt.of N (hs _ (.head _))
  · exact GrownAt.of N (hs _ (.head _))
theorem grown_tabs {h₀ h : Heap} {L P P' a b : Addr} {Tb news : Led} (T : Tabs P P' Tb) (N : News h₀ L h news) (hs : ∀ p ∈ Tb, p ∈ news) : GrownAll [(b, P'), (a, P)] h := by
  refine Classical.byContradiction fun hG' => ?_
  obtain ⟨A, B, rfl, hA, hB⟩ := T
  refine hG' ?_
  clear hG'
  exact ⟨grown_tab hB N fun p hp => hs p (List.mem_append_right _ hp), grown_tab hA N fun p hp => hs p (List.mem_append_left _ hp), trivial⟩
theorem post02 (xs : List Int) : PySem.Challenge.rw_wf0044_02.row.claim.post [ofPy (PyData.list (List.map PyData.int xs))] (WData.bool true) [ofPy (PyData.list (List.map PyData.int xs))] = true := by wrow_post
theorem absCodeX {M : Model} {A : Around} {cd : Code} {R : Result → Shared → Prop} {s : Shared} (k : ∀ R' : Result → Shared → Prop, (∀ r s', R r s' → R' r s') → codeX M A cd R' s) : codeX M A cd R s := k R fun _ _ h => h
theorem ListComp_twoF {prog : Program} {w : World} {A : Around} {E : Value → Shared → Prop} {s : Shared} {i1 : Expr} {scope : Scope} {cl : List (Str × Addr)} {pos p1 p2 p3 p4 : Pos} {env : Env} {x1 x2 : Str} {h₀ : Heap} {L : Addr} {m : Str → Option Value} {Q : Value → Shared → Prop} (_F : Fr h₀ L s.heap m) (hclos : closureFor scope env = pure cl) (hcell : ∀ y ∈ scope.names, y.2 ≠ .cell) (hkind : scope.kind = .function)
    (hnames : ∀ y ∈ scope.names, y.2 = .local → scope.names.lookup y.1 = some .local) (hx1 : scope.names.lookup x1 = some .local) (hx2 : scope.names.lookup x2 = some .local) (hb1 : (x1 == ("__debug__" : Str)) = false) (hb2 : (x2 == ("__debug__" : Str)) = false)
    (h : wpAny (model prog w) A (eval i1 env) (SrcTwo A h₀ L m Q) E s)
    (hs : ∀ x, foldedSetIterable i1 env x = pure x := by intro _; rfl) (hfs : ∀ C x, foldedSetIterable (.Name x1 p2) (compEnvC scope cl C env) x = pure x := by intro _ _; rfl) :
    wpAny (model prog w) A (eval (two (.Name x2 p4) (.Name x1 p1) i1 (.Name x2 p3) (.Name x1 p2) scope pos) env) Q E s := ListComp_two hclos hcell hkind hnames hx1 hx2 hb1 hb2 h hs hfs
theorem rowsV_of {T : Led} {vs : List Value} {rows : List (List Int)} (h : RowsIn T vs rows) : ∃ wss, RowsV T vs wss ∧ IntsAre wss.flatten rows.flatten := by
  induction h with
  | nil => exact ⟨[], .nil, .nil⟩
  | cons a _ ih =>
    refine Classical.byContradiction fun hG' => ?_
    obtain ⟨wss, h1, h2⟩ := ih
    obtain ⟨d, ws, k, rfl, hm, hi⟩ := a
    refine hG' ?_
    clear hG'
    refine ⟨ws :: wss, .cons hm h1, ?_⟩
    rw [List.flatten_cons, List.flatten_cons]
    exact hi.append h2
theorem flat18 {c6 : List Int} (h : c6.length = 6) : (c6.map digs3).reverse.flatten.length = 18 := by
  match c6, h with
  | [_, _, _, _, _, _], _ => rfl
theorem drop3' {h₀ h : Heap} {L : Addr} {p0 p1 p2 p3 : Addr × Obj} {T : Led} (N : News h₀ L h (p0 :: p1 :: p2 :: p3 :: T)) : News h₀ L h (p0 :: T) := fun p hp => by
  rcases List.mem_cons.mp hp with rfl | hp
  · exact N _ (.head _)
  · exact N _ (.tail _ (.tail _ (.tail _ (.tail _ hp))))
theorem with_obj1' {h₀ h : Heap} {L d1 : Addr} {o1 : Obj} {T : Led} {G : Prop} (_ : News h₀ L h ((d1, o1) :: T)) (k : ∀ a o, a = d1 → o = o1 → G) : G := k _ _ rfl rfl
set_option maxHeartbeats 8000000 in
theorem law02 : PySem.Challenge.rw_wf0044_02.Holds := by
  refine hd ?_
  k_fill
  intro w s₀ s₁ mg mb G Y fa o pm cd doc dV kV ho hd hcd hD hmg hg args vals as hpre hlay hrd hwl hlo
  have KX := km_in_of Y
  km_tabs Y
  have X := (Ground.X G).1
  have V := (Ground.X G).2
  refine Ground.open G ?_
  intro T B D TE TW
  try (refine guard_noD D (by decide +kernel) ?_; clear D)
  km_lay T hmg ho hd cd
  clear hmg
  wrow_args hpre hlay hrd hwl hlo
  refine enter_callX ?_
  w_top on
  refine kn_postX hT9 (fun _ _ => rfl) ?_
  refine absCodeX ?_
  intro Rq hRq
  have he := Dflts.none hD rfl; subst he; have he := Dflts.noKw hD; subst he
  refine call_fullX (by decide) ho hd (Top.nolimit T) hcd (BindsTo.of_eq rfl) (locs rfl) fun h₁ F => ?_
  have N0 : News s₁.heap s₁.heap.objs.size h₁ [] := fun _ h => (nomatch h)
  clear hd
  kn_ghosts F T
  k_drop
  clear G Y ho hcd hT8 X V T B TE TW hD
  rename Heap.IsList (ghostOf _ _) _ _ => hl0
  rename IntsAre _ _ => hI0
  refine wpX_execs_cons (wpX_of_any ?_)
  k_steps
  refine Stop.in ?_
  k_dflt (refine Assign_ListComp_W (by k_asm) (by rfl) (by rfl) (by rfl) (by decide) (by rfl) (by decide) (by rfl) (by rfl) (by rfl) ?_)
  k_steps
  refine Stop.in ?_
  rename IntsAre _ (List.take 7 _) => hI7
  rename (List.take 7 _).length = _ => hC7
  refine blk_list rfl (by k_asm) (by k_asm) (List.Mem.head _) (by rw [hI7.length, hC7]; omega) fun gh => ?_
  generalize hT7 : List.take 7 _ = d7 at *
  refine comp_ints (fun j => d7.getD j 0 % 1000000) ?_ ?_
  · intro j v ys I2 oI C oC D2 m₂ h2 tk2 E' hj hP hC hx2 F6 N6 off6 ne6
    refine Classical.byContradiction fun hG' => ?_
    obtain ⟨c, u, rfl, hdc⟩ := IntsAre.at hI7 j v hP
    refine hG' ?_
    clear hG'
    have hg := hdc
    k_steps
    refine Stop.in ?_
    refine CompEnd.fin0 (by assumption) (by assumption) off6 (List.Mem.head _) ?_
    rw [List.getD_eq_getElem?_getD, hdc, Int.fmod_eq_emod_of_nonneg _ (by decide)]
    rfl
  · intro ys hys
    unfold FinA
    intro D3 h3 tk3 F3 N3 o3
    replace o3 := off1_of o3
    have n2 : @Ne Nat D3 _ := Ne.symm (o3 _ (.tail _ (.head _)))
    have n3 : @Ne Nat D3 _ := Ne.symm (o3 _ (.tail _ (.tail _ (.head _))))
    replace N3 := news_hd N3 (fun q hq => List.Mem.tail _ hq)
    rw [hI7.length, range_getD (g := fun c => c % 1000000)] at hys
    dsimp only
    refine wpX_execs_cons (wpX_of_any ?_)
    have hyl : ys.length ≤ 7 := by rw [hys.length, List.length_map]; omega
    k_steps
    refine Stop.in ?_
    first | ((with_reducible show wpAny _ _ (call (Value.builtin "len") [Value.ref _]) _ _ _); first | (k_dflt (refine' len_lK ?y2k1 ?y2k2 ?y2k3 ?_; (case y2k1 => k_asm); (case y2k2 => k_mem)); (case y2k3 => (show _; omega)); k_whole; intro _) | refine Stop.mk ?_) | fail
    k_steps
    refine Stop.in ?_
    k_dflt (refine' slice_tmpK (a := ys.length) ?k1 ?k2 ?k3 ?k4 ?k5 ?_ ?k6; (case k1 => k_asm); (case k2 => k_asm); (case k3 => exact List.Mem.head _); (case k4 => exact hyl); (case k5 => exact Nat.le_of_ble_eq_true rfl); (case k6 => with_unfolding_all rfl); k_whole)
    intro D5 h5 F5 N5 l5
    (try k_lt l5)
    k_steps
    refine Stop.in ?_
    first | (k_dflt (refine' cat_K ?y1k1 ?y1k2 ?y1k3 ?y1k4 ?y1k5 ?_; (case y1k1 => k_asm); (case y1k2 => k_asm); (case y1k3 => k_mem); (case y1k4 => k_mem); (case y1k5 => ((try simp only [List.length_drop, List.length_cons, List.length_nil]); first | with_reducible assumption | omega)); k_whole); intro D' h' F' N' l1; (try k_lt l1); (try k_sweep)) | fail
    k_steps
    dsimp only
    rename Fr _ _ _ _ => FA
    rename News _ _ _ _ => NA
    obtain ⟨NB⟩ : Nonempty (News _ _ _ (_ :: _)) := ⟨drop3' NA⟩
    clear NA
    apply with_obj1' NB
    intro Dc oc hDc hoc
    have hcs : ∃ cv cs, oc = listOf (List.toArray cv) 0 ∧ IntsAre cv cs ∧ cs.length = 7 ∧ ∀ c ∈ cs, 0 ≤ c ∧ c < 1000000 := by
      obtain ⟨cs, z1, z2, z3⟩ := cells_seven (t0 := _) (t1 := _) (t2 := _) (t3 := _) (t4 := _) (t5 := _) (t6 := _) hys hyl
      exact ⟨_, cs, hoc, z1, z2, z3⟩
    rw [← hoc] at NB
    subst hDc
    clear hoc hys
    refine Classical.byContradiction fun hG' => ?_
    obtain ⟨cv, cs, rfl, hcv, hcl, hcr⟩ := hcs
    refine hG' ?_
    clear hG'
    refine wpX_execs_cons ?_
    refine wpX_of_any ?_
    k_steps
    refine Stop.in ?_
    k_dflt (refine Assign_ListComp_W (by k_asm) (by rfl) (by rfl) (by rfl) (by decide) (by rfl) (by decide) (by rfl) (by rfl) (by rfl) ?_)
    k_steps
    refine Stop.in ?_
    rename IntsAre _ (List.take 6 cs) => hI6
    obtain ⟨c6, hc6⟩ : ∃ c6, c6 = List.take 6 cs := ⟨_, rfl⟩
    rw [← hc6] at hI6
    have h6l : c6.length = 6 := by rw [hc6, List.length_take, hcl]; rfl
    have h6r : ∀ c ∈ c6, 0 ≤ c ∧ c < 1000000 := fun c h => hcr c (List.mem_of_mem_take (hc6 ▸ h))
    rename News _ _ _ _ => N6
    apply with_led' N6
    intro T0 hT0 N6'
    clear N6
    refine blk_list rfl (by k_asm) N6' (by rw [hT0]; exact List.Mem.head _) (by rw [hI6.length, h6l]; decide) fun gh => ?_
    refine comp_inv (J := fun ys led => ∃ W, led = W ++ T0 ∧ RowsIn W ys ((c6.take ys.length).map digs3) ∧ Cl W ∧ (∀ p ∈ W, ∀ q ∈ T0, q.1 ≠ p.1)) ⟨[], rfl, .nil, Cl.nil, fun _ h => (nomatch h)⟩ ?_ ?_
    · intro i v ys led I oI C oC D m₂ h tk E' hi hP hyl hp'1 hC hx F N off ne
      refine absQE ?_
      intro Qa Ea hQa
      refine Classical.byContradiction fun hG' => ?_
      obtain ⟨W, rfl, hrw, hCW, hfr⟩ := hp'1
      obtain ⟨c, u, rfl, hdc⟩ := IntsAre.at hI6 i v hP
      obtain ⟨WT, hWT⟩ : ∃ WT, WT = W ++ T0 := ⟨_, rfl⟩
      refine hG' ?_
      clear hG'
      rw [← hWT] at N off
      k_steps
      rename Fr _ _ _ _ => FZ
      rename News _ _ _ _ => NZ
      apply with_obj1' NZ
      intro Dn on hDn hon
      have hnv : ∃ nv, on = listOf (List.toArray nv) 0 ∧ IntsAre nv (digs3 c) := by
        refine ⟨_, hon, ?_⟩
        rw [← digs3_f]
        exact .cons _ _ (.cons _ _ (.cons _ _ .nil))
      rw [← hon] at NZ
      subst hDn
      clear hon
      obtain ⟨nv, rfl, hnv⟩ := hnv
      rename I < Dn ∧ C < Dn ∧ D < Dn ∧ AllLt Dn WT => lZ
      have hWn : ∀ p ∈ WT, p.1 ≠ Dn := allLt_neOf lZ.2.2.2
      refine hQa _ _ ?_
      refine CompEnd.fin FZ NZ ((Dn, listOf (List.toArray nv) 0) :: WT) ?_ ?_ ?_ ⟨(Dn, listOf (List.toArray nv) 0) :: W, by rw [hWT]; rfl, ?_, Cl.cons (by simp) hCW, ?_⟩
      · intro p hp
        simp only [List.mem_cons] at hp ⊢
        rcases hp with hp | hp | hp | hp | hp <;> simp [hp]
      · intro p hp
        rcases List.mem_cons.mp hp with rfl | hp
        · exact ⟨Nat.ne_of_gt lZ.1, Nat.ne_of_gt lZ.2.1, Nat.ne_of_gt lZ.2.2.1⟩
        · exact off p hp
      · exact .tail _ (by rw [hWT, hT0]; exact List.mem_append_right _ (List.Mem.head _))
      · rw [List.length_append, hyl, List.length_singleton, take_snoc' hdc, List.map_append]
        rw [← hyl]
        exact (hrw.mono fun _ h => .tail _ h).snoc ⟨Dn, nv, 0, rfl, .head _, hnv⟩
      · intro p hp q hq
        rcases List.mem_cons.mp hp with rfl | hp
        · exact hWn q (by rw [hWT]; exact List.mem_append_right _ hq)
        · exact hfr p hp q hq
    · intro ys led hyl hp'1
      refine Classical.byContradiction fun hG' => ?_
      obtain ⟨W, rfl, hrw, hCW, hfr⟩ := hp'1
      refine hG' ?_
      clear hG'
      unfold FinA
      intro D8 h8 tk8 F8 N8 o8
      replace o8 := off1_of o8
      rw [hyl, hI6.length, List.take_length] at hrw
      dsimp only
      obtain ⟨ring, hring⟩ : ∃ ring, ring = c6.map digs3 := ⟨_, rfl⟩
      rw [← hring] at hrw
      refine Classical.byContradiction fun hG' => ?_
      obtain ⟨R, hRe⟩ : ∃ R, R = (D8, lst ys) :: (Dc, listOf (List.toArray cv) 0) :: W := ⟨_, rfl⟩
      obtain ⟨Tb, hTbe⟩ : ∃ Tb : Led, Tb = [(44, tabObj #[]), (37, tabObj #[])] := ⟨_, rfl⟩
      refine hG' ?_
      clear hG'
      have hTb : Tabs 44 37 Tb := ⟨[(44, tabObj #[])], [(37, tabObj #[])], hTbe, .inl rfl, .inl rfl⟩
      have hCR : Cl R := by rw [hRe]; exact Cl.cons (by simp) (Cl.cons (by simp) hCW)
      have NR : News _ _ _ (R ++ Tb) := news_sub N8 (fun p hp => by
        rw [hRe, hTbe] at hp
        rw [hT0]
        simp only [List.mem_append, List.mem_cons, List.not_mem_nil, or_false, List.cons_append] at hp ⊢
        rcases hp with hp | hp | hp | hp | hp <;> simp [hp])
      have mD8 : (D8, listOf (List.toArray ys) ys.length) ∈ R ++ Tb := by rw [hRe]; exact .head _
      have mDc : (Dc, listOf (List.toArray cv) 0) ∈ R ++ Tb := by rw [hRe]; exact .tail _ (.head _)
      have hrows : RowsIn R ys ring := hrw.mono fun p hp => by rw [hRe]; exact .tail _ (.tail _ hp)
      clear N8 o8
      -- CUT 1
      refine wpX_execs_cons ?_
      refine wpX_of_any ?_
      k_steps
      refine Stop.in ?_
      obtain ⟨t6, hz6⟩ := int_at hcv (i := 6) (by rw [hcl]; decide)
      have h6n := getD_rng' hcr (by decide) 6
      obtain ⟨n, hn⟩ : ∃ n : Nat, cs.getD 6 0 = (n : Int) := ⟨(cs.getD 6 0).toNat, by omega⟩
      rw [hn] at hz6 h6n
      refine item_lK NR (k := 0) (vs := cv) mDc ⟨by decide, by decide⟩ hz6 ?_
      k_steps
      refine Stop.in ?_
      obtain ⟨LED, hLED⟩ : ∃ LED, LED = R ++ Tb := ⟨_, rfl⟩
      rw [← hLED] at NR mD8 mDc
      k_dflt (refine' specT_useQ (turns_spec w _ _ mg mb LED n _ (by omega)) ?k1 ?k2 ?k3 ?k4 ?k5 ?kK ?ks ?kd ?ku ?_; (case k1 => k_asm); (case k2 => k_asm); (case k3 => k_asm); (case k4 => k_asm); (case k5 => k_asm); (case kK => exact rfl); (case ks => exact fun _ h => h))
      case kd => ktr_room
      case ku => ktr_units
      rintro Q' hQ' rv10 T10 h10 tk10 F10 N10 ⟨DL, tv, kl, Wt, rfl, rfl, htv⟩
      refine hQ' _ _ _ ?_
      clear hQ' Q'
      k_steps
      refine Stop.in ?_
      rename Fr _ _ _ _ => FS
      rename News _ _ _ _ => NS
      refine PyProof.Rows.LSm.sum_ints FS NS rfl (PySem.IsL.isList (n := 0) (NS _ (.tail _ (List.mem_append_right _ mDc))).1) hcv fun h11 tk11 u11 F11 N11 => ?_
      k_steps
      rename News _ _ _ _ => NS2
      replace NS2 := news_tail NS2
      have hw15 : 15 ≤ 15 + cs.sum.fmod 8 ∧ 15 + cs.sum.fmod 8 < 23 := by
        rw [Int.fmod_eq_emod_of_nonneg _ (by decide)]
        omega
      refine wpX_execs_cons ?_
      refine wpX_Assign_Name ?_
      refine wpX_Call ?_
      k_steps
      refine callWithX_K (K := Mine.hd.heap_39 w.params) ?_ ?_
      · k_dflt k_is
      k_steps
      refine Stop.in ?_
      rename Fr _ _ _ _ => FQ
      refine ListComp_twoF FQ (by rfl) (by decide) (by rfl) (by decide) (by rfl) (by rfl) (by decide) (by decide) ?_
      k_steps
      refine Stop.in ?_
      rename Fr _ _ _ _ => FR
      rename News _ _ _ _ => NR2
      refine PySem.W.krv_lit (its := List.toArray ys) (zs := ys.reverse) FR NR2 (PySem.IsL.isList (n := ys.length) (NR2 _ (.tail _ (List.mem_append_right _ mD8))).1) (.int _ _) rfl (fun D12 h12 F12 N12 l12 => ?_) (by with_unfolding_all rfl) (by intro _; with_unfolding_all rfl) (by rw [List.size_toArray, hyl, hI6.length, h6l, sizeLine_eq]; decide)
      obtain ⟨wss, hwss, hflat⟩ := rowsV_of (hrows.reverse.mono (T' := (D12, listOf (List.toArray ys.reverse) 0) :: (DL, listOf (List.toArray tv) kl) :: (Wt ++ LED)) fun p hp => .tail _ (.tail _ (List.mem_append_right _ (by rw [hLED]; exact List.mem_append_left _ hp))))
      have hfl : wss.flatten.length = 18 := by rw [hflat.length, hring]; exact flat18 h6l
      refine ⟨D12, 0, ys.reverse, wss, _, rfl, rfl, F12, N12, .head _, hwss, by rw [hfl, sizeLine_eq]; decide, fun D13 h13 tk13 F13 N13 o13 => ?_⟩
      k_steps
      refine Stop.in ?_
      refine bytesL_K rfl (by k_asm) (by k_asm) (List.Mem.head _) hflat (by rw [hring]; exact oct_rng) (by rw [hfl]; decide) fun b1 tb1 h14 tk14 eb1 sb1 F14 N14 => ?_
      k_steps
      rename News _ _ _ _ => NQ4
      apply with_led' NQ4
      intro W4 hW4 NW4
      k_dflt (refine' specX_useQ (bs_oct w _ _ mg mb W4 b1 _ _ c6 h6l (by rw [sb1, hring]; exact flat18 h6l) (by rw [eb1, hring])) ?k1 ?k2 ?k3 ?k4 ?k5 ?kK ?kd ?ku ?_; (case k1 => k_asm); (case k2 => k_asm); (case k3 => k_asm); (case k4 => k_asm); (case k5 => k_asm); (case kK => exact rfl))
      case kd => ktr_room
      case ku => ktr_units
      rintro Q' hQ' rv15 n15 h15 tk15 F15 N15 l15 ⟨br, t15, rfl, hbr, rfl⟩
      refine hQ' _ _ _ ?_
      clear hQ' Q'
      clear l15 NQ4
      rw [← hring] at hbr
      refine Classical.byContradiction fun hG' => ?_
      obtain ⟨R2, hR2⟩ : ∃ R2, R2 = (DL, listOf (List.toArray tv) kl) :: R := ⟨_, rfl⟩
      refine hG' ?_
      clear hG'
      have hCR2 : Cl R2 := by rw [hR2]; exact Cl.cons (by simp) hCR
      replace N15 : News _ _ _ (R2 ++ Tb) := news_sub N15 (by rw [hW4, hR2]; exact sub16 hLED)
      clear NW4 hW4 W4
      have hrows2 : RowsIn R2 ys ring := hrows.mono fun p hp => by rw [hR2]; exact .tail _ hp
      have mDL2 : (DL, listOf (List.toArray tv) kl) ∈ R2 := by rw [hR2]; exact .head _
      have mD82 : (D8, listOf (List.toArray ys) ys.length) ∈ R2 := by rw [hR2, hRe]; exact .tail _ (.head _)
      have mDc2 : (Dc, listOf (List.toArray cv) 0) ∈ R2 := by rw [hR2, hRe]; exact .tail _ (.tail _ (.head _))
      obtain ⟨LED2, hLED2⟩ : ∃ LED2, LED2 = R2 ++ Tb := ⟨_, rfl⟩
      have mDL : (DL, listOf (List.toArray tv) kl) ∈ LED2 := by rw [hLED2]; exact List.mem_append_left _ mDL2
      have mD8' : (D8, listOf (List.toArray ys) ys.length) ∈ LED2 := by rw [hLED2]; exact List.mem_append_left _ mD82
      have mDc' : (Dc, listOf (List.toArray cv) 0) ∈ LED2 := by rw [hLED2]; exact List.mem_append_left _ mDc2
      have hrowsL : RowsIn LED2 ys ring := hrows2.mono fun p hp => by rw [hLED2]; exact List.mem_append_left _ hp
      rw [← hLED2] at N15
      refine Classical.byContradiction fun hG' => ?_
      obtain ⟨-, hT6, hT5, -⟩ := turns_at n
      refine hG' ?_
      clear hG'
      have hrl : ring.length = 6 := by rw [hring, List.length_map, h6l]
      have hru : ∀ i, i < 6 → Upto 9 (ring.getD i []) := by rw [hring]; exact ring_upto h6l
      k_steps
      try clear NR2 N12 N13 N14 F12 F13 F14 FR
      refine wpX_execs_cons ?_
      refine wpX_of_any ?_
      k_steps
      refine wpX_execs_cons ?_
      refine wpX_of_any ?_
      k_steps
      refine Stop.in ?_
      k_dflt (refine Assign_ListComp_W (by k_asm) (by rfl) (by rfl) (by rfl) (by decide) (by rfl) (by decide) (by rfl) (by rfl) (by rfl) ?_)
      k_steps
      refine Stop.in ?_
      k_dflt (refine' specT_useQ (wheel_spec w _ _ mg mb LED2 D8 DL ys.length kl ys tv ring (turnsL n) mD8' hrowsL mDL htv hrl hru hT6 hT5) ?k1 ?k2 ?k3 ?k4 ?k5 ?kK ?ks ?kd ?ku ?_; (case k1 => k_asm); (case k2 => k_asm); (case k3 => k_asm); (case k4 => k_asm); (case k5 => k_asm); (case kK => exact rfl); (case ks => exact fun _ h => h))
      case kd => ktr_room
      case ku => ktr_units
      rintro Q' hQ' rv17 T17 h17 tk17 F17 N17 ⟨DE, ev, ke, rfl, mDE, hEv, sub17⟩
      obtain ⟨rows, hrowsE⟩ : ∃ rows, rows = wheelAll (turnsL n) ring := ⟨_, rfl⟩
      refine hQ' _ _ _ ?_
      clear hQ' Q'
      rw [← hrowsE] at hEv
      have hrw6 : rows.length = 6 := by rw [hrowsE]; exact wheelAll_len _ _ hrl
      have hrw3 := wheel_three (n := n) hrl hru
      rw [← hrowsE] at hrw3
      k_steps
      refine Stop.in ?_
      rename Fr _ _ _ _ => FE
      rename News _ _ _ _ => NE
      refine blk_list rfl FE NE mDE (by rw [hEv.length, hrw6]; decide) fun gh => ?_
      refine comp_inv (J := fun ys led => ∃ W, led = W ++ T17 ∧ RowsIn led ys ((rows.take ys.length).map bareL)) ⟨[], rfl, .nil⟩ ?_ ?_
      · intro i v ys3 led I oI C oC D m₂ h tk E' hi hP hyl3 hp'1 hC hx F N off ne
        refine absQE ?_
        intro Qa Ea hQa
        refine Classical.byContradiction fun hG' => ?_
        obtain ⟨W3, rfl, hE3⟩ := hp'1
        obtain ⟨xs, hxs, d, ws, k, rfl, hm, hi3⟩ := hEv.at hP
        refine hG' ?_
        clear hG'
        have hx3 := hrw3 i xs hxs
        obtain ⟨WT, hWT⟩ : ∃ WT, WT = W3 ++ T17 := ⟨_, rfl⟩
        have mE : (DE, listOf (List.toArray ev) ke) ∈ WT := by rw [hWT]; exact List.mem_append_right _ mDE
        have mX : (d, listOf (List.toArray ws) k) ∈ (I, oI) :: (C, oC) :: (D, lst ys3) :: WT := by rw [hWT]; exact .tail _ (.tail _ (.tail _ (List.mem_append_right _ hm)))
        rw [← hWT] at N off hE3
        k_steps
        refine Stop.in ?_
        k_dflt (refine' specT_useQ (bare_spec w _ _ mg mb ((I, oI) :: (C, oC) :: (D, lst ys3) :: WT) d k ws xs mX hi3 hx3) ?k1 ?k2 ?k3 ?k4 ?k5 ?kK ?ks ?kd ?ku ?_; (case k1 => k_asm); (case k2 => k_asm); (case k3 => k_asm); (case k4 => k_asm); (case k5 => k_asm); (case kK => exact rfl); (case ks => exact fun _ h => h))
        case kd => ktr_room
        case ku => ktr_units
        rintro Q' hQ' rv18 T18 h18 tk18 F18 N18 ⟨Dn, nv, kn, rfl, rfl, on, hnv⟩
        refine hQ' _ _ _ ?_
        clear hQ' Q'
        k_steps
        rename Fr _ _ _ _ => FZ
        rename News _ _ _ _ => NZ
        have ody := on _ (.head _)
        have odc := on _ (.tail _ (.head _))
        have odd := on _ (.tail _ (.tail _ (.head _)))
        refine hQa _ _ ?_
        refine CompEnd.fin FZ NZ ((Dn, listOf (List.toArray nv) kn) :: WT) (sub_new _ _ _ _ _) ?_ ?_ ⟨(Dn, listOf (List.toArray nv) kn) :: W3, by rw [hWT]; rfl, ?_⟩
        · intro p hp
          rcases List.mem_cons.mp hp with rfl | hp
          · exact ⟨Ne.symm ody, Ne.symm odc, Ne.symm odd⟩
          · exact off p hp
        · exact .tail _ mE
        · rw [List.length_append, hyl3, List.length_singleton, take_snocR hxs, List.map_append]
          rw [← hyl3]
          exact (hE3.mono fun _ h => .tail _ h).snoc ⟨Dn, nv, kn, rfl, .head _, hnv⟩
      · intro ys3 led hyl3 hp'1
        refine Classical.byContradiction fun hG' => ?_
        obtain ⟨W3, rfl, hE3⟩ := hp'1
        refine hG' ?_
        clear hG'
        unfold FinA
        intro D18 h18 tk18 F18 N18 o18
        replace o18 := off1_of o18
        rw [hyl3, hEv.length, List.take_length] at hE3
        dsimp only
        refine Classical.byContradiction fun hG' => ?_
        obtain ⟨RE, cRE, sRE, hRE⟩ := hE3.slim
        obtain ⟨R3, hR3⟩ : ∃ R3, R3 = (D18, lst ys3) :: (RE ++ R2) := ⟨_, rfl⟩
        refine hG' ?_
        clear hG'
        have hCR3 : Cl R3 := by rw [hR3]; exact Cl.cons (by simp) (Cl.append cRE hCR2)
        obtain ⟨LED3, hLED3⟩ : ∃ LED3, LED3 = R3 ++ Tb := ⟨_, rfl⟩
        have N19 : News _ _ _ LED3 := news_sub N18 (by
          rw [hLED3, hR3, List.cons_append, List.append_assoc]
          intro p hp
          rcases List.mem_cons.mp hp with rfl | hp
          · exact .head _
          rcases List.mem_append.mp hp with hp | hp
          · exact .tail _ (sRE p hp)
          · exact .tail _ (List.mem_append_right _ (sub17 p (by rw [hLED2]; exact hp))))
        clear N18 sRE
        have s23 : ∀ p ∈ R2, p ∈ R3 := fun p hp => by rw [hR3]; exact .tail _ (List.mem_append_right _ hp)
        have mDE3 : (D18, listOf (List.toArray ys3) ys3.length) ∈ R3 := by rw [hR3]; exact .head _
        have hRE3 : RowsIn R3 ys3 (rows.map bareL) := hRE.mono fun p hp => by rw [hR3]; exact .tail _ (List.mem_append_left _ hp)
        have h9 : Nine ring := by rw [hring]; exact ring_nine h6l
        refine wpX_execs_cons ?_
        refine wpX_of_any ?_
        k_steps
        refine Stop.in ?_
        k_dflt (refine Assign_ListComp_W (by k_asm) (by rfl) (by rfl) (by rfl) (by decide) (by rfl) (by decide) (by rfl) (by rfl) (by rfl) ?_)
        k_steps
        refine Stop.in ?_
        k_dflt (refine' specT_useQ (bydiv_spec w _ _ mg mb R3 Tb hTb hCR3 br DL kl tv (turnsL n) (15 + cs.sum.fmod 8) _ _ ring hbr h9 (s23 _ mDL2) htv hT6 hT5 hw15) ?k1 ?k2 ?k3 ?k4 ?k5 ?kK ?ks ?kd ?ku ?_; (case k1 => k_asm); (case k2 => k_asm); (case k3 => k_asm); (case k4 => k_asm); (case k5 => k_asm); (case kK => exact rfl); (case ks => (rw [hLED3]; exact fun _ h => h)))
        case kd => ktr_room
        case ku => ktr_units
        rintro Q' hQ' rv19 T19 h19 tk19 F19 N19 ⟨DO, ov, ko, WO, Tb', rfl, rfl, hOv, cWO, hTb'⟩
        refine hQ' _ _ _ ?_
        clear hQ' Q'
        k_steps
        refine Stop.in ?_
        obtain ⟨wn, hwn⟩ : ∃ wn, wn = (15 + cs.sum.fmod 8).toNat := ⟨_, rfl⟩
        have hwn15 : 15 ≤ wn := by omega
        rw [← hwn] at hOv
        obtain ⟨rowz, hrowz⟩ : ∃ rowz, rowz = figsOf wn (wholeL (2 ^ wn) (2 ^ (11 * wn)) (turnsL n) (dnum (11 * wn) (row6 fun i => val3 (2 ^ wn) (mirD ring i)))) := ⟨_, rfl⟩
        rw [← hrowz] at hOv
        have hrz := figs_three wn (wholeL (2 ^ wn) (2 ^ (11 * wn)) (turnsL n) (dnum (11 * wn) (row6 fun i => val3 (2 ^ wn) (mirD ring i))))
        rw [← hrowz] at hrz
        have hsame : rowz.map bareL = rows.map bareL := by
          rw [hrowz, hrowsE]
          exact (ends_others hwn15 n hrl h9).symm
        have htold : rows.map bareL = toldL ring ((n : Int) + 3) := by
          rw [hrowsE]
          exact ends_told n hrl
        refine Classical.byContradiction fun hG' => ?_
        obtain ⟨T20, hT20⟩ : ∃ T20, T20 = (DO, listOf (List.toArray ov) ko) :: (WO ++ (R3 ++ Tb')) := ⟨_, rfl⟩
        refine hG' ?_
        clear hG'
        have mDO : (DO, listOf (List.toArray ov) ko) ∈ T20 := by rw [hT20]; exact .head _
        have hO20 : RowsIn T20 ov rowz := hOv.mono fun p hp => by rw [hT20]; exact .tail _ (List.mem_append_left _ hp)
        have s320 : ∀ p ∈ R3, p ∈ T20 := fun p hp => by rw [hT20]; exact .tail _ (List.mem_append_right _ (List.mem_append_left _ hp))
        have st20 : ∀ p ∈ Tb', p ∈ T20 := fun p hp => by rw [hT20]; exact .tail _ (List.mem_append_right _ (List.mem_append_right _ hp))
        rename News _ _ _ _ => N20
        rename Fr _ _ _ _ => F20
        rw [← hT20] at N20
        refine blk_list rfl F20 N20 mDO (by rw [hO20.length, hrz.1]; decide) fun gh => ?_
        refine comp_inv (J := fun ys led => ∃ W, led = W ++ T20 ∧ RowsIn led ys ((rowz.take ys.length).map bareL)) ⟨[], rfl, .nil⟩ ?_ ?_
        · intro i v ys4 led I oI C oC D m₂ h tk E' hi hP hyl4 hp'1 hC hx F N off ne
          refine absQE ?_
          intro Qa Ea hQa
          refine Classical.byContradiction fun hG' => ?_
          obtain ⟨W4, rfl, hE4⟩ := hp'1
          obtain ⟨xs, hxs, d, ws, k, rfl, hm, hi3⟩ := hO20.at hP
          refine hG' ?_
          clear hG'
          have hx3 := hrz.2 i xs hxs
          obtain ⟨WT, hWT⟩ : ∃ WT, WT = W4 ++ T20 := ⟨_, rfl⟩
          have mE : (DO, listOf (List.toArray ov) ko) ∈ WT := by rw [hWT]; exact List.mem_append_right _ mDO
          have mX : (d, listOf (List.toArray ws) k) ∈ (I, oI) :: (C, oC) :: (D, lst ys4) :: WT := by rw [hWT]; exact .tail _ (.tail _ (.tail _ (List.mem_append_right _ hm)))
          rw [← hWT] at N off hE4
          k_steps
          refine Stop.in ?_
          k_dflt (refine' specT_useQ (bare_spec w _ _ mg mb ((I, oI) :: (C, oC) :: (D, lst ys4) :: WT) d k ws xs mX hi3 hx3) ?k1 ?k2 ?k3 ?k4 ?k5 ?kK ?ks ?kd ?ku ?_; (case k1 => k_asm); (case k2 => k_asm); (case k3 => k_asm); (case k4 => k_asm); (case k5 => k_asm); (case kK => exact rfl); (case ks => exact fun _ h => h))
          case kd => ktr_room
          case ku => ktr_units
          rintro Q' hQ' rv21 T21 h21 tk21 F21 N21 ⟨Dn, nv, kn, rfl, rfl, on, hnv⟩
          refine hQ' _ _ _ ?_
          clear hQ' Q'
          k_steps
          rename Fr _ _ _ _ => FZ
          rename News _ _ _ _ => NZ
          have ody := on _ (.head _)
          have odc := on _ (.tail _ (.head _))
          have odd := on _ (.tail _ (.tail _ (.head _)))
          refine hQa _ _ ?_
          refine CompEnd.fin FZ NZ ((Dn, listOf (List.toArray nv) kn) :: WT) (sub_new _ _ _ _ _) ?_ ?_ ⟨(Dn, listOf (List.toArray nv) kn) :: W4, by rw [hWT]; rfl, ?_⟩
          · intro p hp
            rcases List.mem_cons.mp hp with rfl | hp
            · exact ⟨Ne.symm ody, Ne.symm odc, Ne.symm odd⟩
            · exact off p hp
          · exact .tail _ mE
          · rw [List.length_append, hyl4, List.length_singleton, take_snocR hxs, List.map_append]
            rw [← hyl4]
            exact (hE4.mono fun _ h => .tail _ h).snoc ⟨Dn, nv, kn, rfl, .head _, hnv⟩
        · intro ys4 led hyl4 hp'1
          refine Classical.byContradiction fun hG' => ?_
          obtain ⟨W4, rfl, hE4⟩ := hp'1
          refine hG' ?_
          clear hG'
          unfold FinA
          intro D22 h22 tk22 F22 N22 o22
          replace o22 := off1_of o22
          rw [hyl4, hO20.length, List.take_length, hsame] at hE4
          dsimp only
          refine Classical.byContradiction fun hG' => ?_
          obtain ⟨T22, hT22⟩ : ∃ T22, T22 = (D22, lst ys4) :: (W4 ++ T20) := ⟨_, rfl⟩
          refine hG' ?_
          clear hG'
          have s2022 : ∀ p ∈ T20, p ∈ T22 := fun p hp => by rw [hT22]; exact .tail _ (List.mem_append_right _ hp)
          have mDO22 : (D22, listOf (List.toArray ys4) ys4.length) ∈ T22 := by rw [hT22]; exact .head _
          have mDE22 := s2022 _ (s320 _ mDE3)
          have mDc22 := s2022 _ (s320 _ (s23 _ mDc2))
          have mD822 := s2022 _ (s320 _ (s23 _ mD82))
          have rE22 : RowsIn T22 ys3 (rows.map bareL) := hRE3.mono fun p hp => s2022 _ (s320 _ hp)
          have rO22 : RowsIn T22 ys4 (rows.map bareL) := hE4.mono fun p hp => by rw [hT22]; exact .tail _ hp
          have rR22 : RowsIn T22 ys ring := hrows2.mono fun p hp => s2022 _ (s320 _ (s23 _ hp))
          have st22 : ∀ p ∈ Tb', p ∈ T22 := fun p hp => s2022 _ (st20 p hp)
          rw [← hT22] at N22
          refine wpX_execs_cons ?_
          refine wpX_of_any ?_
          k_steps
          refine Stop.in ?_
          rename News _ _ _ _ => N23
          refine eqrows_T N23 (k := ys3.length) (k' := ys4.length) (vs := ys3) (vs' := ys4) mDE22 mDO22 rE22 rO22 (by ke_room) ?_
          k_steps
          refine Stop.in ?_
          refine item_lK N23 (k := 0) (vs := cv) mDc22 ⟨by decide, by decide⟩ hz6 ?_
          k_steps
          refine Stop.in ?_
          have hst3 : -1000000000 < (n : Int) + 3 ∧ (n : Int) + 3 < 1000000000 := by omega
          have h3r : ∀ i, i < 6 → (ring.getD i []).length = 3 := fun i hi => (hru i hi).1
          k_dflt (refine' specT_useQ (told_spec w _ _ mg mb T22 D8 ys.length ys ring ((n : Int) + 3) _ mD822 rR22 hrl h3r hst3) ?k1 ?k2 ?k3 ?k4 ?k5 ?kK ?ks ?kd ?ku ?_; (case k1 => k_asm); (case k2 => k_asm); (case k3 => k_asm); (case k4 => k_asm); (case k5 => k_asm); (case kK => exact rfl); (case ks => exact fun _ h => h))
          case kd => ktr_room
          case ku => ktr_units
          rintro Q' hQ' rv24 T24 h24 tk24 F24 N24 ⟨DT, zv, kz, rfl, mDT, hTv, sub24⟩
          refine hQ' _ _ _ ?_
          clear hQ' Q'
          rw [← htold] at hTv
          have mDE24 := sub24 _ mDE22
          have rE24 : RowsIn T24 ys3 (rows.map bareL) := rE22.mono sub24
          have hgr : GrownAll [(41, 37), (48, 44)] h24 := grown_tabs hTb' N24 fun p hp => sub24 p (st22 p hp)
          k_steps
          refine Stop.in ?_
          rename News _ _ _ _ => N25
          refine eqrows_T N25 (k := ys3.length) (k' := kz) (vs := ys3) (vs' := zv) mDE24 mDT rE24 hTv (by ke_room) ?_
          refine hRq _ _ ?_
          refine And.intro ?_ hgr
          rename Fr _ _ _ _ => FZ
          refine goodW_bool FZ hg (raisesW_false ?_) (post02 _)
          wrow_none_raised
end Mine
end
open PySem PySem.W PyProof.Rows
theorem PySem.Challenge.cw_wf0044_02_holds : PySem.Challenge.rw_wf0044_02.Holds := by
  exact Mine.law02
