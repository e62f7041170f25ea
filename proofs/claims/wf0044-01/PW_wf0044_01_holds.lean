import PyProof.Rows.All
import Wide.All
import OpenK.AllK
import Wide.FinOn
import PySem.Challenge.RW_wf0044_01
set_option Elab.async false
local macro_rules | `(tactic| omega) => `(tactic| first | decide | lia | omega +splitNatSub)
section
open PySem PySem.W PyProof.Rows PySem.Calls
set_option maxRecDepth 100000
namespace Mine
abbrev Led := List (Addr × Obj)
noncomputable def fdv (a b : Int) : UInt64 := Float64.ofFrac (decide (a < 0) != decide (b < 0)) a.natAbs b.natAbs
section
variable {prog : Program} {w : World} {A : Around} {E : Value → Shared → Prop} {s : Shared} {h₀ : Heap} {L : Addr} {m : Str → Option Value} {news : Led}
theorem max3_K {a b c : Int} {t u x : Tok} {Q : Value → Shared → Prop} (hh : A.handled = none) (F : Fr h₀ L s.heap m) (N : News h₀ L s.heap news)
    (h : ∀ t' h' tk, Fr h₀ L h' m → News h₀ L h' news → Q (.int ((max a (max b c))) t') { s with heap := h', toks := tk }) :
    wpAny (model prog w) A (call (.builtin "max") [.int a t, .int b u, .int c x]) Q E s := by
  refine max_three_ints hh fun h' tk hk => ?_
  have key : ∃ t', (if b > a then (if c > b then Value.int c x else .int b u) else (if c > a then .int c x else .int a t)) = Value.int ((max a (max b c))) t' := by
    by_cases h1 : b > a
    · by_cases h2 : c > b
      · exact ⟨x, by rw [if_pos h1, if_pos h2, Int.max_eq_right (Int.le_of_lt h2), Int.max_eq_right (Int.le_of_lt (Int.lt_trans h1 h2))]⟩
      · exact ⟨u, by rw [if_pos h1, if_neg h2, Int.max_eq_left (Int.not_lt.mp h2), Int.max_eq_right (Int.le_of_lt h1)]⟩
    · by_cases h2 : c > a
      · exact ⟨x, by rw [if_neg h1, if_pos h2, Int.max_eq_right (Int.le_of_lt (Int.lt_of_le_of_lt (Int.not_lt.mp h1) h2)), Int.max_eq_right (Int.le_of_lt h2)]⟩
      · exact ⟨t, by rw [if_neg h1, if_neg h2, Int.max_eq_left (Int.max_le.mpr ⟨Int.not_lt.mp h1, Int.not_lt.mp h2⟩)]⟩
  obtain ⟨t', e⟩ := key
  rw [e]
  exact h t' h' tk (F.grownK hk) (N.grown hk)
theorem min3_K {a b c : Int} {t u x : Tok} {Q : Value → Shared → Prop} (hh : A.handled = none) (F : Fr h₀ L s.heap m) (N : News h₀ L s.heap news)
    (h : ∀ t' h' tk, Fr h₀ L h' m → News h₀ L h' news → Q (.int ((min a (min b c))) t') { s with heap := h', toks := tk }) :
    wpAny (model prog w) A (call (.builtin "min") [.int a t, .int b u, .int c x]) Q E s := by
  refine min_three_ints hh fun h' tk hk => ?_
  have key : ∃ t', (if b < a then (if c < b then Value.int c x else .int b u) else (if c < a then .int c x else .int a t)) = Value.int ((min a (min b c))) t' := by
    by_cases h1 : b < a
    · by_cases h2 : c < b
      · exact ⟨x, by rw [if_pos h1, if_pos h2, Int.min_eq_right (Int.le_of_lt h2), Int.min_eq_right (Int.le_of_lt (Int.lt_trans h2 h1))]⟩
      · exact ⟨u, by rw [if_pos h1, if_neg h2, Int.min_eq_left (Int.not_lt.mp h2), Int.min_eq_right (Int.le_of_lt h1)]⟩
    · by_cases h2 : c < a
      · exact ⟨x, by rw [if_neg h1, if_pos h2, Int.min_eq_right (Int.le_of_lt (Int.lt_of_lt_of_le h2 (Int.not_lt.mp h1))), Int.min_eq_right (Int.le_of_lt h2)]⟩
      · exact ⟨t, by rw [if_neg h1, if_neg h2, Int.min_eq_left (Int.le_min.mpr ⟨Int.not_lt.mp h1, Int.not_lt.mp h2⟩)]⟩
  obtain ⟨t', e⟩ := key
  rw [e]
  exact h t' h' tk (F.grownK hk) (N.grown hk)
theorem divii_K {a b : Int} {t u : Tok} {Q : Value → Shared → Prop} (hA : A.handled = none) (hfit : -1000000000 < a ∧ a < 1000000000) (hb : b ≠ 0)
    (h : Q (.float (fdv a b) s.toks) { s with toks := s.toks + 1 }) : wpAny (model prog w) A (binaryOp .Div (.int a t) (.int b u)) Q E s :=
  PySem.Flt.div_ii_fits hA (Nat.lt_of_lt_of_le (m := 2 ^ 30) (by omega) (Nat.pow_le_pow_right (by decide) (by decide))) (fun e => absurd e hb) (fun _ _ => h)
end
noncomputable def Spec (prog : Program) (w : World) (K : Frag) (p : Program) (loose : List Str) (mean : ExcName → Option Value) (mg mb : Str → Option Value) (dd uu : Nat) (f : Addr) (vs : List Value) (T : Led) (Post : Value → Led → Prop) : Prop :=
  ∀ (dp un : Nat) (gd : Option (List Code)) (cn : Str) (cs : Scope) (a : Addr) (ccd : Value) (cl : List (Str × Addr)) (outer : List Env) (A₀ : Around) (base h₀ : Heap) (L : Addr) (m : Str → Option Value) (s : Shared) (Q E : Value → Shared → Prop),
    Below A₀ base outer h₀ → Fr h₀ L s.heap m → K.In h₀ → News h₀ L s.heap T → Top p loose mean mg mb h₀ → cs.kind = .function → dp + dd < recursionLimit → un + uu < cLine →
    (∀ (r : Value) (new : Led) (h' : Heap) (tk' : Nat), Fr h₀ L h' m → News h₀ L h' (new ++ T) → (∀ q ∈ T, ∀ p ∈ new, q.1 < p.1) → Post r new → Q r { s with heap := h', toks := tk' }) →
    wpAny (model prog w) (ktrTop dp un gd cn cs L a ccd cl outer) (call (.ref f) vs) Q E s

abbrev tupObj (vs : List Value) : Obj := { cls := .type "tuple", data := .seq vs.toArray }
theorem hret1 {h₀ : Heap} {L D : Addr} {m : Str → Option Value} {T : Led} {s : Shared} {Q : Value → Shared → Prop} {Post : Value → Led → Prop} {h' : Heap} {tk' : Nat} {o : Obj}
    (hret : ∀ (r : Value) (new : Led) (h' : Heap) (tk' : Nat), Fr h₀ L h' m → News h₀ L h' (new ++ T) → (∀ q ∈ T, ∀ p ∈ new, q.1 < p.1) → Post r new → Q r { s with heap := h', toks := tk' })
    (F : Fr h₀ L h' m) (N : News h₀ L h' ((D, o) :: T)) (l : ∀ p ∈ T, p.1 < D) (hp : Post (.ref D) [(D, o)]) : Q (.ref D) { s with heap := h', toks := tk' } :=
  hret _ [(D, o)] _ _ F N (fun q hq p hp => by rw [List.mem_singleton.mp hp]; exact l q hq) hp
theorem hret0 {h₀ : Heap} {L : Addr} {m : Str → Option Value} {T : Led} {s : Shared} {Q : Value → Shared → Prop} {Post : Value → Led → Prop} {h' : Heap} {tk' : Nat} {v : Value}
    (hret : ∀ (r : Value) (new : Led) (h' : Heap) (tk' : Nat), Fr h₀ L h' m → News h₀ L h' (new ++ T) → (∀ q ∈ T, ∀ p ∈ new, q.1 < p.1) → Post r new → Q r { s with heap := h', toks := tk' })
    (F : Fr h₀ L h' m) (N : News h₀ L h' T) (hp : Post v []) : Q v { s with heap := h', toks := tk' } :=
  hret _ [] _ _ F N (fun _ _ _ hp => nomatch hp) hp

noncomputable def rgbH (r g b : Int) : UInt64 :=
  if (min r (min g b)) = (max r (max g b)) then 0 else
  let rg := (max r (max g b)) - (min r (min g b))
  let rc := fdv ((max r (max g b)) - r) rg
  let gc := fdv ((max r (max g b)) - g) rg
  let bc := fdv ((max r (max g b)) - b) rg
  let h := if r = (max r (max g b)) then Float64.sub bc gc else if g = (max r (max g b)) then Float64.sub (Float64.add 4611686018427387904 rc) bc else Float64.sub (Float64.add 4616189618054758400 gc) rc
  (Float64.divmod (Float64.div h 4618441417868443648) 4607182418800017408).2
noncomputable def rgbS (r g b : Int) : UInt64 := if (min r (min g b)) = (max r (max g b)) then 0 else fdv ((max r (max g b)) - (min r (min g b))) ((max r (max g b)))
noncomputable def rgbPost (r g b : Int) (v : Value) (new : Led) : Prop :=
  ∃ D u1 u2 u3, v = .ref D ∧ new = [(D, tupObj [.float (rgbH r g b) u1, .float (rgbS r g b) u2, .int ((max r (max g b))) u3])]
theorem rgbPost0 {r g b : Int} {D : Addr} {u1 u2 u3 : Tok} (h : (min r (min g b)) = (max r (max g b))) : rgbPost r g b (.ref D) [(D, tupObj [.float 0 u1, .float 0 u2, .int ((max r (max g b))) u3])] := by
  refine ⟨D, u1, u2, u3, rfl, ?_⟩
  unfold rgbH rgbS
  rw [if_pos h, if_pos h]
theorem rgbPostN {r g b : Int} {D : Addr} {u1 u2 u3 : Tok} {H S : UInt64} (h : (min r (min g b)) ≠ (max r (max g b)))
   (hs : S = fdv ((max r (max g b)) - (min r (min g b))) ((max r (max g b))))
   (hh : H = (Float64.divmod (Float64.div (if r = (max r (max g b)) then Float64.sub (fdv ((max r (max g b)) - b) ((max r (max g b)) - (min r (min g b)))) (fdv ((max r (max g b)) - g) ((max r (max g b)) - (min r (min g b)))) else if g = (max r (max g b)) then Float64.sub (Float64.add 4611686018427387904 (fdv ((max r (max g b)) - r) ((max r (max g b)) - (min r (min g b))))) (fdv ((max r (max g b)) - b) ((max r (max g b)) - (min r (min g b)))) else Float64.sub (Float64.add 4616189618054758400 (fdv ((max r (max g b)) - g) ((max r (max g b)) - (min r (min g b))))) (fdv ((max r (max g b)) - r) ((max r (max g b)) - (min r (min g b))))) 4618441417868443648) 4607182418800017408).2) : rgbPost r g b (.ref D) [(D, tupObj [.float H u1, .float S u2, .int ((max r (max g b))) u3])] := by
  refine ⟨D, u1, u2, u3, rfl, ?_⟩
  unfold rgbH rgbS
  rw [if_neg h, if_neg h, hs, hh]
end Mine
end
section
open PySem PySem.W PyProof.Rows PySem.Calls
open PySem.Sem (wp)
set_option maxRecDepth 100000
namespace Mine
noncomputable def badIds : List String := Builtin.Bytes.decodersThatHold ++ ["bytearray.__contains__", "bytearray.__mod__", "bytearray.__rmod__", "_struct.pack_into.held", "bytearray.find.held"]
noncomputable def holds (c : Code) : Bool := match c with | .builtin id _ => badIds.contains id | _ => false
noncomputable def CleanL (l : List (Code × Pos)) : Prop := ∀ x ∈ l, holds x.1 = false
theorem CleanL.cons {c : Code} {p : Pos} {l : List (Code × Pos)} (h : holds c = false) (k : CleanL l) : CleanL ((c, p) :: l) := fun x hx => by
  rcases List.mem_cons.mp hx with rfl | hx
  · exact h
  · exact k x hx
noncomputable def wpX {α : Type} (M : Model) (A : Around) (t : Sem α) (Q : α → Shared → Prop) (E : Value → Shared → Prop) (s : Shared) : Prop :=
  ∀ Γ p, CleanL Γ.below → holds Γ.code = false → Γ.In A → wp M Γ t (fun a _ s' => Q a s') (fun e _ s' => E e s') p s
noncomputable def codeX (M : Model) (A : Around) (c : Code) (R : Result → Shared → Prop) (s : Shared) : Prop :=
  ∀ Γ p, Γ.code = c → CleanL Γ.below → Γ.Below A → wpCode M Γ R p s
section
variable {α β : Type} {M : Model} {A : Around} {E : Value → Shared → Prop} {s : Shared}
theorem wpX_of_any {t : Sem α} {Q : α → Shared → Prop} (h : wpAny M A t Q E s) : wpX M A t Q E s := fun Γ p _ _ hΓ => h Γ p hΓ
theorem codeX_of_any {c : Code} {R : Result → Shared → Prop} (h : codeAny M A c R s) : codeX M A c R s := fun Γ p hc _ hΓ => h Γ p hc hΓ
theorem wpX_mono {t : Sem α} {Q Q' : α → Shared → Prop} {E' : Value → Shared → Prop} (h : wpX M A t Q E s) (hQ : ∀ a s, Q a s → Q' a s) (hE : ∀ e s, E e s → E' e s) : wpX M A t Q' E' s :=
  fun Γ p h1 h2 hΓ => Sem.wp_mono M Γ t (fun a _ s => hQ a s) (fun e _ s => hE e s) p s (h Γ p h1 h2 hΓ)
theorem codeX_mono {c : Code} {R R' : Result → Shared → Prop} (h : codeX M A c R s) (hR : ∀ r s, R r s → R' r s) : codeX M A c R' s :=
  fun Γ p hc h1 hΓ => wpCode_mono hR (h Γ p hc h1 hΓ)
theorem wpX_bind {m : Sem α} {f : α → Sem β} {Q : β → Shared → Prop} (h : wpX M A m (fun a s' => wpX M A (f a) Q E s') E s) : wpX M A (m >>= f) Q E s := fun Γ p h1 h2 hΓ => by
  rw [Sem.wp_bind']
  exact Sem.wp_mono M Γ m (fun a p' s' h' => h' Γ p' h1 h2 hΓ) (fun _ _ _ h' => h') p s (h Γ p h1 h2 hΓ)
theorem wpX_bindA {m : Sem α} {f : α → Sem β} {Q : β → Shared → Prop} (h : wpAny M A m (fun a s' => wpX M A (f a) Q E s') E s) : wpX M A (m >>= f) Q E s := wpX_bind (wpX_of_any h)
theorem wpX_pure {a : α} {Q : α → Shared → Prop} (h : Q a s) : wpX M A (pure a) Q E s := wpX_of_any (wpAny_pure h)
theorem wpX_holding {vs : List Value} {m : Sem α} {Q : α → Shared → Prop} (h : wpX M A m Q E s) : wpX M A (holding vs m) Q E s :=
  fun Γ p h1 h2 hΓ => by rw [Sem.wp_holding]; exact h Γ p h1 h2 hΓ
theorem wpX_onRaise {m : Sem α} {k : Value → Sem Unit} {Q : α → Shared → Prop}
    (h : wpX M A m Q (fun e s' => wpAny M A (k e) (fun _ s'' => E e s'') E s') s) : wpX M A (m.onRaise k) Q E s := fun Γ p h1 h2 hΓ => by
  rw [Sem.wp_onRaise]
  exact Sem.wp_mono M Γ m (fun _ _ _ h' => h') (fun e p' s' h' => h' Γ p' hΓ) p s (h Γ p h1 h2 hΓ)
theorem wpX_call {f : Value} {pos : List Value} {kw : List (Str × Value)} {Q : Value → Shared → Prop}
    (hc : codeX M A (.call f ⟨pos, kw⟩) (fun r s' => match r with | .ok (.ret v) => Q v s' | .ok _ => False | .error e => E e s') s) : wpX M A (call f pos kw) Q E s := fun Γ p h1 h2 hΓ => by
  show wp M Γ (runValue (.call f ⟨pos, kw⟩)) _ _ p s
  rw [Sem.wp_runValue]
  exact hc _ p rfl (CleanL.cons h2 h1) (hΓ.enter _ none p (by intro x; cases x))
theorem codeX_of_tree {c : Code} {R : Result → Shared → Prop} (hc : holds c = false)
    (h : wpX M (A.under c) (M.den c) (fun fin s' => match fin with | .done f => R (.ok f) s' | .again c' => c'.quiet = true ∧ codeX M A c' R s')
      (fun e s' => R (.error e) s') s) : codeX M A c R s := fun Γ p e h1 hΓ => by
  rw [wpCode_iff_wp, e]
  refine Sem.wp_mono M Γ _ (fun fin p' s' h' => ?_) (fun _ _ _ h' => h') p s (h Γ p h1 (e ▸ hc) (e ▸ hΓ.in))
  cases fin with
  | done f => exact h'
  | again c' => exact ⟨h'.1, h'.2 (Γ.goto c') p' rfl h1 (hΓ.goto c')⟩
theorem exported_X {a : Addr} {Q : Bool → Shared → Prop} (h : Q false s) : wpX M A (Builtin.Bytes.exported (.ref a)) Q E s := by
  intro Γ p h1 h2 _
  unfold Builtin.Bytes.exported
  show Q (((Γ.code, p) :: Γ.below).any _) s
  rw [show (((Γ.code, p) :: Γ.below).any _) = false from ?_]
  · exact h
  · rw [List.any_eq_false]
    intro x hx
    have hh : holds x.1 = false := CleanL.cons h2 h1 x hx
    obtain ⟨c, q⟩ := x
    rw [Bool.not_eq_true]
    cases c with
    | builtin id args =>
      have hb : badIds.contains id = false := hh
      have hb2 : Builtin.Bytes.decodersThatHold.contains id = false := by
        cases e : Builtin.Bytes.decodersThatHold.contains id with
        | false => rfl
        | true =>
          exfalso
          have h3 : id ∈ badIds := List.mem_append_left _ (List.contains_iff_mem.mp e)
          rw [List.contains_iff_mem.mpr h3] at hb
          cases hb
      have hne : ∀ x ∈ (["bytearray.__contains__", "bytearray.__mod__", "bytearray.__rmod__", "_struct.pack_into.held", "bytearray.find.held"] : List String), id ≠ x := by
        intro x hx e
        subst e
        have h3 : id ∈ badIds := List.mem_append_right _ hx
        rw [List.contains_iff_mem.mpr h3] at hb
        cases hb
      have h1 := hne "bytearray.__contains__" (by decide)
      have h2 := hne "bytearray.__mod__" (by decide)
      have h3 := hne "bytearray.__rmod__" (by decide)
      have h4 := hne "_struct.pack_into.held" (by decide)
      have h5 := hne "bytearray.find.held" (by decide)
      clear hne hb hh hx
      obtain ⟨l, kw⟩ := args
      show Builtin.Bytes.exported.match_1 (fun _ => Bool) _ _ _ _ _ _ _ _ = false
      unfold Builtin.Bytes.exported.match_1
      dsimp only
      unfold Builtin.Bytes.exported._sparseCasesOn_1
      dsimp only
      rw [dif_neg h1, dif_neg h2, dif_neg h3, dif_neg h4, dif_neg h5]
      cases l with
      | nil => rfl
      | cons v l => exact (congrArg (fun z => Builtin.Bytes.sameRef v (.ref a) && z) hb2).trans (Bool.and_false _)
    | _ => rfl
end
end Mine
end
section
open PySem PySem.W PyProof.Rows PySem.Calls
open PySem.Sem (wp)
set_option maxRecDepth 100000
namespace Mine
namespace FB
theorem mro : mroOf (.type "bytearray") = pure [.type "bytearray", .type "object"] := by rw [mroOf_type]; kernel_rfl
theorem lk_new : typeLookup (.type "bytearray") "__new__" = pure (some (.builtin "bytearray.__new__")) := by rw [typeLookup_type, builtinLookup_eq_fast]; kernel_rfl
theorem lk_init : Slot "bytearray" "__init__" "bytearray.__init__" :=
  .of (owner := "bytearray") (n := "__init__") (by rw [typeLookup_type, builtinLookup_eq_fast]; kernel_rfl) (by decide +kernel) (by decide +kernel) (by decide +kernel)
    (by first | exact .inl (by decide +kernel) | exact .inr (by decide +kernel)) (by rw [isSubtype_type]; kernel_rfl)
theorem called : TypeCalled "bytearray" "bytearray.__new__" "bytearray.__init__" :=
  ⟨by decide +kernel, by decide +kernel, ⟨_, _, mro⟩, madeBy_type mro lk_new (by decide +kernel), by decide +kernel, by rw [isSubtype_type]; kernel_rfl, lk_init⟩
theorem typeCall (a : Value) : checkTypeCall "bytearray" ⟨[a], []⟩ = pure () := by kernel_rfl
theorem newCall (a : Value) : checkBuiltinCall "bytearray.__new__" ⟨[.type "bytearray", a], []⟩ = pure () := by kernel_rfl
theorem entry_new : entryFor table "bytearray.__new__" = some Builtin.«list.__new__» :=
  entryFor_alias (id' := "list.__new__") (by kernel_rfl) (by first | rfl | decide +kernel) (by decide +kernel) (by kernel_rfl)
theorem plain_new : plainId "bytearray.__new__" = true := by decide +kernel
theorem entry_init : entryFor table "bytearray.__init__" = some Builtin.«bytearray.__init__» := entryFor_of_tree (by kernel_rfl)
theorem sub_self : isSubtype (.type "bytearray") (.type "bytearray") = pure true := by rw [isSubtype_type]; kernel_rfl
theorem args_init (a b : Value) : argsOk "bytearray.__init__" ⟨[a, b], []⟩ := by unfold argsOk; kernel_rfl
theorem bind_init (v : Value) : Builtin.Bytes.bindOptional "bytearray.__init__" "bytearray" ["source", "encoding", "errors"] [v] [] = pure [some v, none, none] := by kernel_rfl
theorem lk_release : typeLookup (.type "bytearray") "__release_buffer__" = pure (some (.builtin "bytearray.__release_buffer__")) := by rw [typeLookup_type, builtinLookup_eq_fast]; kernel_rfl
theorem lk_index : typeLookup (.type "int") "__index__" = pure (some (.builtin "int.__index__")) := by rw [typeLookup_type, builtinLookup_eq_fast]; kernel_rfl
end FB
set_option maxRecDepth 1000000 in
set_option maxHeartbeats 4000000 in
theorem owner_ba_new : ("bytearray.__new__".splitOn ".__new__").headD "" = "bytearray" := by simp +decide [String.splitOn, String.splitOnAux]
abbrev baObj (b : Array UInt8) : Obj := { cls := .type "bytearray", data := .bytearray b }
section
variable {prog : Program} {w : World} {A : Around} {E : Value → Shared → Prop} {s : Shared}
theorem codeX_builtin {id : String} {args : Args} {b : Builtin} {R : Result → Shared → Prop} (hb : entryFor table id = some b) (hf : holds (.builtin id args) = false)
    (h : wpX (model prog w) (A.under (.builtin id args)) (b args) (fun fin s' => match fin with | .done f => R (.ok f) s' | .again c' => c'.quiet = true ∧ codeX (model prog w) A c' R s') (fun e s' => R (.error e) s') s) :
    codeX (model prog w) A (.builtin id args) R s := by
  refine codeX_of_tree hf ?_
  have hden : (model prog w).den (.builtin id args) = b args := by
    show (match entryFor table id with | some b => b args | none => unsupported ((withoutEnding? id "#data").getD id)) = _
    rw [hb]
  rw [hden]
  exact h
theorem ba_new (a : Value) {Q₁ : Value → Shared → Prop}
    (h : Q₁ (.ref s.heap.objs.size) { s with heap := s.heap.push (baObj #[]) }) :
    codeAny (model prog w) A (.call (.builtin "bytearray.__new__") ⟨[.type "bytearray", a], []⟩) (wants Q₁ E) s := by
  refine codeAny_of_tree ?_
  show wpAny _ A.in1 (do checkBuiltinCall "bytearray.__new__" ⟨[.type "bytearray", a], []⟩; again (.builtin "bytearray.__new__" ⟨[.type "bytearray", a], []⟩)) _ _ s
  refine wpAny_bind (wpAny_of_eq (FB.newCall a) (wpAny_pure ⟨plainId_quiet FB.plain_new _, codeAny_builtin_stack FB.entry_new rfl fun p st => ?_⟩))
  rw [Around.under_plainId FB.plain_new _]
  have hsub := FB.sub_self
  have hown := owner_ba_new
  obtain ⟨hp, g, d, tk, os⟩ := s
  simp only [hown]
  wp_walk
  exact h
end
end Mine
end
section
open PySem PySem.W PyProof.Rows PySem.Calls
open PySem.Sem (wp)
set_option maxRecDepth 100000
namespace Mine
section
variable {prog : Program} {w : World} {A : Around} {E : Value → Shared → Prop} {s : Shared}
theorem write_ba {a : Addr} {b : Array UInt8} {f : Array UInt8 → Array UInt8} {Q : Unit → Shared → Prop} {M : Model} (h0 : s.heap.get? a = some (baObj b)) (hz : (f b).size ≤ sizeLine)
    (h : Q () { s with heap := s.heap.update a (Obj.mapBytearray f) }) : wpAny M A (Builtin.Bytes.write (.ref a) f) Q E s := by
  show wpAny _ _ (updateBytearray a f) _ _ _
  unfold updateBytearray
  refine wpAny_bind (wpAny_load h0 ?_)
  show wpAny _ _ (update a (Obj.mapBytearray f) >>= fun _ => lookBehind a) _ _ _
  refine wpAny_bind (wpAny_update h0 ?_)
  refine wpAny_lookBehind (o := baObj (f b)) (Heap.get?_update_self (Obj.mapBytearray f) h0 rfl) ?_ h
  show (if (f b).size > sizeLine then some "bytearray:memory" else none) = none
  rw [if_neg (Nat.not_lt.mpr hz)]
theorem wpX_if_false {α : Type} {M : Model} {c : Bool} {a b : Sem α} {Q : α → Shared → Prop} (hc : c = false) (h : wpX M A b Q E s) : wpX M A (if c = true then a else b) Q E s := by
  subst hc
  exact h
theorem ba_init {a : Addr} {n : Int} {t : Tok} (hh : A.handled = none) (h0 : 0 < n) (h1 : n < 1000000) (ho : s.heap.get? a = some (baObj #[])) {Q : PySem.Fin → Shared → Prop}
    (h : ∀ h' tk, Heap.SameBut a s.heap h' → h'.get? a = some (baObj (Array.replicate n.toNat 0)) → Q (.done (.ret .none)) { s with heap := h', toks := tk }) :
    wpX (model prog w) A (Builtin.«bytearray.__init__» ⟨[.ref a, .int n t], []⟩) Q E s := by
  have hT : s.TypeIs (.ref a) "bytearray" := ⟨_, ho, rfl⟩
  have rel : ∀ {Q : Bool → Shared → Prop} {E' : Value → Shared → Prop} {A' : Around}, Q false s → wpAny (model prog w) A' (Builtin.Bytes.ownRelease (.ref a)) Q E' s := by
    intro Q E' A' hq
    unfold Builtin.Bytes.ownRelease Builtin.Bytes.slotIsOwn
    refine wpAny_bind (wpAny_bind (wpAny_specialOf hT FB.lk_release ?_))
    dsimp only
    rw [show ("bytearray.__release_buffer__".endsWith ("." ++ "__release_buffer__")) = true from by decide +kernel]
    refine wpAny_isInstance hT (b := true) (by rw [show ("bytearray.__release_buffer__".dropRight ("__release_buffer__".length + 1)) = "bytearray" from by decide +kernel]; exact FB.sub_self) ?_
    exact wpAny_pure hq
  unfold Builtin.«bytearray.__init__»
  refine wpX_bindA (m := Builtin.Bytes.ownRelease (.ref a)) (rel ?_)
  refine wpX_if_false rfl ?_
  refine wpX_bindA (wpAny_of_eq (FB.bind_init _) ?_)
  refine wpX_bindA (wpAny_of_eq (a := ()) rfl ?_)
  refine wpX_bindA (wpAny_of_eq (a := ()) rfl ?_)
  refine wpX_bind (wpX_bind (exported_X ?_))
  dsimp only
  refine wpX_of_any ?_
  unfold Builtin.Bytes.exportsOf
  refine wpAny_bind (wpAny_bind (wpAny_load ho (wpAny_pure (wpAny_pure ?_))))
  refine wpX_if_false (by decide) ?_
  refine wpX_of_any ?_
  refine wpAny_bind (write_ba (b := #[]) (f := fun _ => #[]) ho (Nat.zero_le _) ?_)
  have ho2 : (s.heap.update a (Obj.mapBytearray fun _ => #[])).get? a = some (baObj #[]) := Heap.get?_update_self (Obj.mapBytearray fun _ => #[]) ho rfl
  refine wpAny_bind (wpAny_of_eq (a := none) rfl ?_)
  refine bm_if_false rfl ?_
  refine wpAny_bind (wpAny_of_eq (a := ()) rfl ?_)
  refine wpAny_bind (wpAny_specialOf (T := "int") rfl FB.lk_index ?_)
  refine bm_if_true rfl ?_
  refine wpAny_bind (wpAny_attempt (wpAny_of_eq (a := n) rfl ?_))
  dsimp only
  refine bm_if_false (by unfold Builtin.Bytes.fitsIndex; simp only [Bool.not_eq_false', decide_eq_true_eq, Bool.and_eq_true]; omega) ?_
  rw [if_neg (by omega)]
  refine bm_if_false (by simp only [beq_eq_false_iff_ne, ne_eq]; omega) ?_
  refine bm_if_false (by simp [Builtin.Bytes.tooLong, sizeLine]; omega) ?_
  refine wpAny_bind (wpAny_rule ?_)
  rw [if_pos (by omega)]
  refine wpAny_bind (write_ba (b := #[]) (f := fun _ => Array.replicate n.toNat 0) ho2 (by simp [sizeLine]; omega) ?_)
  refine wpAny_pure (h _ _ ((Heap.SameBut.update ..).trans (Heap.SameBut.update ..)) ?_)
  exact Heap.get?_update_self (Obj.mapBytearray fun _ => Array.replicate n.toNat 0) ho2 rfl
end
end Mine
namespace Mine
section
variable {prog : Program} {w : World} {A : Around} {E : Value → Shared → Prop} {s : Shared}
theorem ba_call {n : Int} {t : Tok} {Q : Value → Shared → Prop} (hh : A.handled = none) (h0 : 0 < n) (h1 : n < 1000000)
    (h : ∀ a h' tk, s.heap.objs.size ≤ a → (∀ b o, s.heap.get? b = some o → h'.get? b = some o) → h'.get? a = some (baObj (Array.replicate n.toNat 0)) → Q (.ref a) { s with heap := h', toks := tk }) :
    wpX (model prog w) A (call (.type "bytearray") [.int n t]) Q E s := by
  have ft := FB.called
  obtain ⟨c, tl, hmro⟩ := ft.mro
  have hmade := ft.made
  have hsub := ft.sub
  have hct := FB.typeCall (.int n t)
  refine wpX_call (codeX_of_tree rfl ?_)
  show wpX _ _ (callAny (.type "bytearray") _) _ _ _
  refine wpX_of_any (wpAny_pure ⟨Code.quiet_builtin _ (by decide +kernel), codeX_builtin F.entry_type_call (show badIds.contains "type.__call__" = false from by decide +kernel) ?_⟩)
  rw [Around.under_plain (weight_type_call_type "bytearray" [.int n t] []) rfl]
  have h2 := ft.notType
  have h3 := ft.canCreate
  unfold Builtin.«type.__call__»
  dsimp only
  refine wpX_if_false h2 ?_
  refine wpX_if_false h3 ?_
  refine wpX_bindA (wpAny_of_eq hct ?_)
  refine wpX_bindA (wpAny_of_eq hmro ?_)
  refine wpX_if_false rfl ?_
  refine wpX_bindA (wpAny_of_eq hmade ?_)
  dsimp only
  refine wpX_bindA (wpAny_pure ?_)
  refine wpX_bind (wpX_holding (wpX_call (codeX_mono (codeX_of_any (ba_new (Q₁ := fun obj s₁ => obj = .ref s.heap.objs.size ∧ s₁ = { s with heap := s.heap.push (baObj #[]) }) (E := fun e s' => E e s') (.int n t) ⟨rfl, rfl⟩)) fun r s' hr => ?_)))
  rcases r with e | (v | _ | _ | obj) <;> first | exact hr | exact hr.elim | skip
  obtain ⟨rfl, rfl⟩ := hr
  have ho : ({ s with heap := s.heap.push (baObj #[]) } : Shared).heap.get? s.heap.objs.size = some (baObj #[]) := Heap.get?_push_size _ rfl
  have hT : ({ s with heap := s.heap.push (baObj #[]) } : Shared).TypeIs (.ref s.heap.objs.size) "bytearray" := ⟨_, ho, rfl⟩
  refine wpX_bindA (wpAny_isInstance hT hsub ?_)
  refine wpX_if_false rfl ?_
  refine wpX_bind (wpX_holding ?_)
  unfold callSpecial?
  refine wpX_bindA (wpAny_specialOf hT ft.init.lookup ?_)
  refine wpX_holding ?_
  refine wpX_bindA (wpAny_of_eq (ft.init.bind _) ?_)
  dsimp only
  refine wpX_bind (wpX_call (codeX_of_tree rfl ?_))
  show wpX _ A.in1.in1 (do checkBuiltinCall "bytearray.__init__" ⟨[.ref s.heap.objs.size, .int n t], []⟩; again (.builtin "bytearray.__init__" ⟨[.ref s.heap.objs.size, .int n t], []⟩)) _ _ _
  refine wpX_bindA (ft.init.check _ _ _ _ _ _ _ _ hT (FB.args_init _ _) ?_)
  refine wpX_pure ⟨plainId_quiet ft.init.plain _, codeX_builtin FB.entry_init (show badIds.contains "bytearray.__init__" = false from by decide +kernel) ?_⟩
  rw [Around.under_plainId ft.init.plain _]
  refine ba_init (by exact hh) h0 h1 ho fun h' tk hsb hh' => ?_
  refine wpX_pure ?_
  dsimp only
  refine wpX_if_false rfl ?_
  refine wpX_pure ?_
  refine h _ h' tk (Nat.le_refl _) (fun b o e => ?_) hh'
  exact hsb.extBut b o (Nat.ne_of_lt (Heap.lt_size e)) (Heap.get?_push_of_some _ e)
end
end Mine
end
section
open PySem PySem.W PyProof.Rows PySem.Calls
open PySem.Sem (wp)
set_option maxRecDepth 100000
namespace Mine
namespace FB
theorem slot_setitem : Slot "bytearray" "__setitem__" "bytearray.__setitem__" :=
  .of (owner := "bytearray") (n := "__setitem__") (by rw [typeLookup_type, builtinLookup_eq_fast]; kernel_rfl) (by decide +kernel) (by decide +kernel) (by decide +kernel)
    (by first | exact .inl (by decide +kernel) | exact .inr (by decide +kernel)) (by rw [isSubtype_type]; kernel_rfl)
theorem entry_setitem : entryFor table "bytearray.__setitem__" = some Builtin.«bytearray.__setitem__» := entryFor_of_tree (by kernel_rfl)
theorem args_setitem (a b c : Value) : argsOk "bytearray.__setitem__" ⟨[a, b, c], []⟩ := by unfold argsOk; kernel_rfl
theorem no_bytes : typeLookup (.type "bytearray") "__bytes__" = pure none := by rw [typeLookup_type, builtinLookup_eq_fast]; kernel_rfl
theorem lk_noindex : typeLookup (.type "bytearray") "__index__" = pure none := by rw [typeLookup_type, builtinLookup_eq_fast]; kernel_rfl
theorem lk_buffer : typeLookup (.type "bytearray") "__buffer__" = pure (some (.builtin "bytearray.__buffer__")) := by rw [typeLookup_type, builtinLookup_eq_fast]; kernel_rfl
end FB
section
variable {prog : Program} {w : World} {A : Around} {E : Value → Shared → Prop} {s : Shared}
theorem rel_ba {v : Value} {M : Model} {Q : Bool → Shared → Prop} (hT : s.TypeIs v "bytearray") (hq : Q false s) : wpAny M A (Builtin.Bytes.ownRelease v) Q E s := by
  unfold Builtin.Bytes.ownRelease Builtin.Bytes.slotIsOwn
  refine wpAny_bind (wpAny_bind (wpAny_specialOf hT FB.lk_release ?_))
  dsimp only
  rw [show ("bytearray.__release_buffer__".endsWith ("." ++ "__release_buffer__")) = true from by decide +kernel]
  refine wpAny_isInstance hT (b := true) (by rw [show ("bytearray.__release_buffer__".dropRight ("__release_buffer__".length + 1)) = "bytearray" from by decide +kernel]; exact FB.sub_self) ?_
  exact wpAny_pure hq
theorem ba_setAt {a : Addr} {b : Array UInt8} {k x : Int} {t u : Tok} {Q : Unit → Shared → Prop} (ho : s.heap.get? a = some (baObj b)) (h0 : 0 ≤ k) (hn : k < b.size) (hz : b.size ≤ 1000000) (hx : 0 ≤ x ∧ x < 256)
    (hQ : Q () { s with heap := s.heap.update a (Obj.mapBytearray (·.setIfInBounds k.toNat x.toNat.toUInt8)) }) : wpAny (model prog w) A (setItem (.ref a) (.int k t) (.int x u)) Q E s := by
  have hT : s.TypeIs (.ref a) "bytearray" := ⟨_, ho, rfl⟩
  unfold setItem
  try with_reducible refine wpAny_holding ?_
  first | refine wpAny_bind (wpAny_pure ?_) | skip
  refine wpAny_bind (wpAny_sequenceKey hT (by decide) ?_)
  refine wpAny_bind (wpAny_callSpecial?_slot (name := Str.ofString "__setitem__") hT FB.slot_setitem
    (wpAny_call_entry FB.slot_setitem hT FB.entry_setitem ?_ (FB.args_setitem _ _ _)))
  unfold Builtin.«bytearray.__setitem__»
  refine bm_if_false rfl ?_
  dsimp only
  unfold Builtin.Bytes.subscript?
  refine wpAny_bind (wpAny_bind (wpAny_specialOf (T := "int") rfl FB.lk_index ?_))
  refine bm_if_false rfl ?_
  refine wpAny_bind (wpAny_of_eq (a := k) rfl ?_)
  refine bm_if_false (by unfold Builtin.Bytes.fitsIndex; simp only [Bool.not_eq_false', decide_eq_true_eq, Bool.and_eq_true]; omega) ?_
  refine wpAny_pure ?_
  dsimp only
  unfold Builtin.Bytes.byteValue
  refine wpAny_bind (wpAny_bind (wpAny_of_eq (a := x) rfl ?_))
  refine bm_if_false (by simp only [Bool.or_eq_false_iff, decide_eq_false_iff_not]; omega) ?_
  refine wpAny_pure ?_
  unfold Builtin.Bytes.payload Builtin.Bytes.payload?
  refine wpAny_bind (wpAny_bind (wpAny_bind (wpAny_load ho (wpAny_pure (wpAny_pure ?_)))))
  have hi : seqIndex? k b.size = some k.toNat := by
    unfold seqIndex?
    have e1 : (if k < 0 then k + (b.size : Int) else k) = k := if_neg (by omega)
    simp only [e1]
    rw [if_pos (by simp only [Bool.and_eq_true, decide_eq_true_eq]; omega)]
  rw [hi]
  dsimp only
  refine wpAny_bind (write_ba ho (by rw [Array.size_setIfInBounds]; simp [sizeLine]; omega) ?_)
  first
    | exact wpAny_bind (wpAny_pure (wpAny_pure ⟨.none, rfl, wpAny_pure hQ⟩))
    | exact wpAny_pure ⟨.none, rfl, wpAny_pure hQ⟩
theorem ba_bytes {a : Addr} {b : Array UInt8} {Q : Value → Shared → Prop} (ho : s.heap.get? a = some (baObj b)) (hz : b.size ≤ 1000000) (hh : A.handled = none)
    (hQ : ∀ t k, Q (.bytes b t) { s with toks := k }) : wpAny (model prog w) A (call (.type "bytes") [.ref a]) Q E s := by
  have hT : s.TypeIs (.ref a) "bytearray" := ⟨_, ho, rfl⟩
  refine callType_codes (Q₁ := fun obj s₁ => s₁.TypeIs obj "bytes" ∧ Q obj s₁) F.bm_called (F.bm_typeCall _) F.entry_object_init
    ?_ fun obj s₁ h₁ => ?_
  · refine codeAny_of_tree ?_
    show wpAny _ A.in1.in1 (do checkBuiltinCall "bytes.__new__" ⟨[.type "bytes", .ref a], []⟩; again (.builtin "bytes.__new__" ⟨[.type "bytes", .ref a], []⟩)) _ _ s
    refine wpAny_bind (wpAny_of_eq (F.bm_newCall _) (wpAny_pure ⟨plainId_quiet F.bm_plain _, codeAny_builtin F.bm_entry ?_⟩))
    rw [Around.under_plainId F.bm_plain _]
    unfold Builtin.«bytes.__new__»
    refine wpAny_bind (wpAny_of_eq (a := true) rfl ?_)
    refine bm_if_false rfl ?_
    refine wpAny_bind (wpAny_of_eq F.bm_sub ?_)
    refine bm_if_false rfl ?_
    refine wpAny_bind (wpAny_of_eq (F.bm_bind _) ?_)
    refine wpAny_bind (wpAny_of_eq (a := ()) rfl ?_)
    refine wpAny_bind (wpAny_of_eq (a := ()) rfl ?_)
    refine bm_if_false rfl ?_
    refine wpAny_bind (wpAny_specialOf hT FB.no_bytes ?_)
    refine wpAny_bind (wpAny_bind ?_)
    show wpAny _ _ (load a >>= _) _ _ _
    refine wpAny_bind (wpAny_load ho ?_)
    refine wpAny_pure (wpAny_pure ?_)
    refine bm_if_false rfl ?_
    refine wpAny_bind (wpAny_specialOf hT FB.lk_noindex ?_)
    refine bm_if_true rfl ?_
    first
      | show wpAny _ _ (Builtin.Bytes.buffer? "bytes.__new__" (.ref a) true >>= _) _ _ _
      | (refine wpAny_bind ?_; show wpAny _ _ (Builtin.Bytes.buffer? "bytes.__new__" (.ref a) true >>= _) _ _ _)
    refine wpAny_bind ?_
    unfold Builtin.Bytes.buffer?
    refine wpAny_bind (wpAny_specialOf hT FB.lk_buffer ?_)
    dsimp only
    unfold Builtin.Bytes.slotIsOwn
    refine wpAny_bind (wpAny_bind (wpAny_specialOf hT FB.lk_buffer ?_))
    dsimp only
    rw [show ("bytearray.__buffer__".endsWith ("." ++ "__buffer__")) = true from by decide +kernel]
    refine wpAny_isInstance hT (b := true) (by rw [show ("bytearray.__buffer__".dropRight ("__buffer__".length + 1)) = "bytearray" from by decide +kernel]; exact FB.sub_self) ?_
    refine bm_if_false rfl ?_
    refine wpAny_bind (wpAny_specialOf hT FB.lk_buffer ?_)
    show wpAny _ _ (Builtin.Bytes.ownRelease (.ref a) >>= _) _ _ _
    refine wpAny_bind (rel_ba hT ?_)
    refine bm_if_false rfl ?_
    unfold Builtin.Bytes.payload Builtin.Bytes.payload?
    refine wpAny_bind (wpAny_bind (wpAny_bind (wpAny_load ho (wpAny_pure (wpAny_pure (wpAny_pure ?_))))))
    dsimp only
    refine wpAny_bind (wpAny_rule ?_)
    refine wpAny_bind (wpAny_mkBytes ?_ (by simp [sizeLine]; omega))
    show wpAny _ _ (if (Value.type "bytes" == Value.type "bytes") = true then _ else _) _ _ _
    refine bm_if_true (by decide) ?_
    first
      | exact wpAny_pure ⟨typeIs_bytes _ _ _, hQ _ _⟩
      | exact wpAny_bind (wpAny_pure (wpAny_pure ⟨typeIs_bytes _ _ _, hQ _ _⟩))
  · exact ⟨h₁.1, F.args_object_init_2 obj _, object_init_meets F.bm_called.init.lookup F.bm_called.made (by decide) prog w A.in1 _ s₁ ⟨h₁.1, rfl, h₁.2⟩⟩
end
end Mine
end
section
open PySem PySem.W PyProof.Rows PySem.Calls
open PySem.Sem (wp)
set_option maxRecDepth 100000
namespace Mine
section
variable {α : Type} {M : Model} {A : Around} {E : Value → Shared → Prop} {s : Shared} {env : Env}
theorem wpX_keep {vs : List Value} {m : Sem α} {Q : α → Shared → Prop} (h : wpX M A m Q E s) : wpX M A (m.keep vs) Q E s :=
  fun Γ p h1 h2 hΓ => by rw [Sem.wp_keep]; exact h Γ p h1 h2 hΓ
theorem wpX_execs_cons {st : Stmt} {rest : List Stmt} {Q : Flow → Shared → Prop}
    (h : wpX M A (exec st env) (fun f s' => match f with | .next => wpX M A (execs rest env) Q E s' | f => Q f s') E s) : wpX M A (execs (st :: rest) env) Q E s := fun Γ p h1 h2 hΓ => by
  rw [execs_cons, Sem.wp_bind']
  refine Sem.wp_mono M Γ _ (fun f p' s' h' => ?_) (fun _ _ _ h' => h') _ _ (h Γ p h1 h2 hΓ)
  cases f <;> first | exact h' Γ p' h1 h2 hΓ | exact h'
theorem wpX_Assign_Name {x : Str} {pos' pos : Pos} {value : Expr} {Q : Flow → Shared → Prop}
    (h : wpX M A (eval value env) (fun v s₁ => wpAny M A (storeName env x v) (fun _ => Q .next) E s₁) E s)
    (hs : swapsWith value (some (.Name x pos')) pos.line env = pure false := by rfl) :
    wpX M A (exec (.Assign [.Name x pos'] value pos) env) Q E s := fun Γ p h1 h2 hΓ => by
  simp only [exec_Assign_Name env x pos' value pos hs, Sem.wp_bind', Sem.wp_cmd_standAt, Sem.wp_bindName, Sem.wp_pure']
  exact Sem.wp_mono M Γ _ (fun v _ s₁ h₁ => h₁ Γ _ hΓ) (fun _ _ _ h' => h') _ _ (h Γ _ h1 h2 hΓ)
theorem wpX_Call {func : Expr} {args : List Expr} {pos : Pos} {Q : Value → Shared → Prop}
    (h : wpAny M A (eval func env) (fun f s₁ => wpX M A (callWith pos f [] (backTo pos (starEach args env)) []) Q E s₁) E s)
    (he : eval (.Call func args [] pos) env = (do callWith pos (← eval func env) [] (backTo pos (starEach args env)) (backToKw pos (keywordEach [] env))) := by rfl) :
    wpX M A (eval (.Call func args [] pos) env) Q E s := by
  rw [he]; exact wpX_bindA h
theorem callWithX_of {P : Heap → Prop} {pos : Pos} {f : Value} {first : List Value} {args : List (Bool × Sem Value)} {keywords : List (Option Str × Sem Value)} {Q : Value → Shared → Prop} (hplain : (args.any (·.1) || keywords.any (·.1.isNone)) = false)
    (hk : ∀ h, P h → ∃ k, (k = Keeper.frame ∨ k = Keeper.machine ∨ k = Keeper.boundFrame) ∧ Looks M h (keeperOf f) k)
    (h : wpAny M A (evalArgs f true args keywords) (fun a s₁ => P s₁.heap ∧ wpX M A (call f (first ++ a.pos) a.kw) Q E s₁) E s) : wpX M A (callWith pos f first args keywords) Q E s := by
  unfold callWith
  refine wpX_bindA (wpAny_holding (wpAny_mono h (fun a s₁ h₁ => wpX_bindA (wpAny_standAt ?_)) fun _ _ x => x))
  obtain ⟨k, hk', L⟩ := hk _ h₁.1
  simp only [hplain]
  refine wpX_bindA (L.here ?_)
  have tail : ∀ {t : Sem Value}, wpX M A t Q E s₁ → wpX M A (t >>= fun r => holding [r] point >>= fun _ => pure r) Q E s₁ :=
    fun ht => wpX_bind (wpX_mono ht (fun r s₂ hr => wpX_of_any (wpAny_bind (wpAny_holding (wpAny_point (wpAny_pure hr))))) fun _ _ x => x)
  have marked (mk : Value) : wpX M A (callMarked mk f (first ++ a.pos) a.kw) Q E s₁ := by unfold callMarked; exact wpX_keep h₁.2
  rcases hk' with rfl | rfl | rfl <;> dsimp only <;> first | exact tail h₁.2 | (split <;> first | exact tail h₁.2 | exact tail (marked _))
theorem callWithX_K {K : Frag} {pos : Pos} {f : Value} {first : List Value} {e : Expr} {rest : List Expr} {Q : Value → Shared → Prop} (hk : keepIn K f = true)
    (h : wpAny M A (spliced (backTo pos (starEach (e :: rest) env))) (fun vs s₁ => K.In s₁.heap ∧ wpX M A (call f (first ++ vs)) Q E s₁) E s)
    (he : starEach (e :: rest) env = (false, eval e env) :: starEach rest env := by rfl) (hplain : (backTo pos (starEach rest env)).any (·.1) = false := by rfl) :
    wpX M A (callWith pos f first (backTo pos (starEach (e :: rest) env)) []) Q E s := by
  rw [he] at h ⊢
  exact callWithX_of (by show ((false || (backTo pos (starEach rest env)).any (·.1)) || false) = false; rw [hplain]; rfl) (keeps_K hk) (evalArgs_plain h)
theorem callWithX_type1 {pos : Pos} {T : String} {e : Expr} {rest : List Expr} {Q : Value → Shared → Prop}
    (h : wpAny M A (spliced (backTo pos (starEach (e :: rest) env))) (fun vs s₁ => wpX M A (call (.type T) vs) Q E s₁) E s)
    (he : starEach (e :: rest) env = (false, eval e env) :: starEach rest env := by rfl)
    (hplain : (backTo pos (starEach rest env)).any (·.1) = false := by rfl) :
    wpX M A (callWith pos (.type T) [] (backTo pos (starEach (e :: rest) env)) []) Q E s := by
  rw [he] at h ⊢
  refine callWithX_of (P := fun _ => True) (by show ((false || (backTo pos (starEach rest env)).any (·.1)) || false) = false; rw [hplain]; rfl)
    (fun h _ => ⟨.machine, .inr (.inl rfl), Looks.of_pure rfl⟩) (evalArgs_plain (wpAny_mono h (fun vs s₁ h₁ => ⟨trivial, h₁⟩) fun _ _ x => x))
end
section
variable {prog : Program} {w : World} {A : Around} {s : Shared} {R : Result → Shared → Prop}
theorem codeX_func {body : List Stmt} {env : Env}
    (h : wpX (model prog w) (A.deeper env) (execs body env) (fun f s' => R (.ok (.ret (match f with | .ret v => v | _ => .none))) s')
      (fun e s' => wpAny (model prog w) (A.deeper env) (leaving env e) (fun _ s'' => R (.error e) s'') (fun e' s'' => R (.error e') s'') s') s) :
    codeX (model prog w) A (.func body env) R s := by
  refine codeX_of_tree rfl ?_
  show wpX _ (A.deeper env) (do point; match ← (execs body env).onRaise (leaving env) with | .ret v => ret v | _ => ret .none) _ _ s
  refine wpX_bindA (wpAny_point (wpX_bind (wpX_onRaise (wpX_mono h (fun f s' h' => ?_) fun _ _ h' => h'))))
  cases f <;> exact wpX_pure h'
theorem codeX_call_function {a : Addr} {args : Args} {o : Obj} {fd : FuncData} {body : List Stmt} (hroom : A.depth < recursionLimit)
    (ho : s.heap.get? a = some o)
    (hd' : o.data = .func fd) (hco : fd.scope.isCoroutine = false) (hgen : fd.scope.isGenerator = false) (hbody : fd.body = .stmts body) (hcd : s.heap.CodeRec fd.code fd.qualname)
    (h : wpAny (model prog w) A.in1 (bindArgs fd args) (fun binds s₁ =>
      wpAny (model prog w) A.in1 (newFunctionEnv fd.scope fd.globals fd.closure binds (fd.qualname ++ ".<locals>.") (some a) fd.code none fd.builtins)
        (fun env s₂ => s₂.heap.NoLimit ∧ codeX (model prog w) A (.func body env) R s₂) (fun e s' => R (.error e) s') s₁) (fun e s' => R (.error e) s') s) :
    codeX (model prog w) A (.call (.ref a) args) R s := by
  refine codeX_of_tree rfl ?_
  show wpX _ A.in1 (callAny (.ref a) args) _ _ s
  simp only [callAny]
  refine wpX_bindA (wpAny_load ho ?_)
  obtain ⟨c, oc, vs, tq, hc, hoc, hdc, hq⟩ := hcd
  simp only [hd', callFunction, hco, hgen, hbody, hc]
  rw [hc] at h
  refine wpX_of_any ?_
  refine wpAny_bind (m := field (.ref c) 1) (wpAny_field hoc hdc hq (wpAny_bind (wpAny_pure ?_)))
  exact wpAny_bind (wpAny_mono h (fun binds s₁ h₁ => wpAny_bind (wpAny_mono h₁ (fun env s₂ h₂ => wpAny_bind (wpAny_enterFrame h₂.1 hroom
    (wpAny_pure (And.intro rfl h₂.2)))) fun _ _ h' => h')) fun _ _ h' => h')
end
section
variable {prog : Program} {w : World} {A₀ A : Around} {s : Shared} {base h₀ : Heap} {outer : List Env} {L : Addr} {m : Str → Option Value} {env : Env} {news : Led} {mg mb : Str → Option Value} {p : Program} {loose : List Str} {mean : ExcName → Option Value}
  {R : Result → Shared → Prop} {name qual : Str} {params : Arguments} {body : List Stmt} {scope : Scope} {dV kV doc pm cdv ct oc : Value} {an od : Option Addr} {osl : Array (Option Value)} {f : Addr} {args : Args} {binds : List (Str × Value)} {K : Frag}
theorem code_defX
    (B : Below A₀ base outer h₀) (F : Fr h₀ L s.heap m) (X₀ : K.In h₀) (N : News h₀ L s.heap news) (T : Top p loose mean mg mb h₀) (hA : A.frames = some (env :: outer)) (hf : env.frame = some L) (hke : env.scope.kind = .function)
    (ho : K.lookup f = some ⟨oc, od, .func (fnOf name qual params body scope dV kV doc pm an cdv ct), osl⟩) (hcd : codeIn K cdv qual = true) (hroom : A.depth < recursionLimit)
    (hbind : BindsTo s (fnOf name qual params body scope dV kV doc pm an cdv ct) args binds) (hloc : ∀ y ∈ binds, scope.names.lookup y.1 = some .local)
    (h : ∀ g L' h₁, Fr h₀ L g m → Fr g L' h₁ (fun y => binds.reverse.lookup y) → News g L' h₁ news → Below A base (env :: outer) g → K.In g → Top p loose mean mg mb g →
      wpX (model prog w) (A.deeper (envOf qual scope L' f cdv)) (execs body (envOf qual scope L' f cdv))
        (fun fl s' => LeaveK h₀ L m g R (match fl with | .ret v => v | _ => .none) s')
        (fun e s' => wpAny (model prog w) (A.deeper (envOf qual scope L' f cdv)) (leaving (envOf qual scope L' f cdv) e) (fun _ s'' => R (.error e) s'') (fun e' s'' => R (.error e') s'') s')
        { s with heap := h₁, toks := s.toks + binds.length })
    (hco : scope.isCoroutine = false) (hgen : scope.isGenerator = false) (hk : scope.kind = .function)
    (hcell : ∀ x ∈ scope.names, x.2 ≠ .cell) : codeX (model prog w) A (.call (.ref f) args) R s := by
  obtain ⟨FG, BG, st, lv⟩ := groundX (R := R) B F N hA hf hke
  have X := X₀.keeps F.keep
  have ho' := X _ _ ho
  refine codeX_call_function hroom ho' rfl hco hgen rfl (codeRec_of X hcd) (hbind _ _ _ _ ?_)
  refine wpAny_newFunctionEnv hcell hloc (fun h₁ hns hsb => ⟨(T.nolimit.keeps F.keep).fresh _ hsb, codeX_func ?_⟩) hk
  have hk₁ : ∀ b o, s.heap.get? b = some o → h₁.get? b = some o := fun b o e => hsb.extBut b o (Nat.ne_of_lt (Heap.lt_size e)) (Heap.get?_push_of_some _ e)
  exact wpX_mono (h _ s.heap.objs.size h₁ FG ⟨hns, fun b o e => hk₁ b o (of_hideAll _ e), Nat.le_of_eq (hideAll_size _ _)⟩
    (fun p hp => ⟨hk₁ _ _ (N p hp).1, Nat.ne_of_lt (Heap.lt_size (N p hp).1), hideAll_none _ (List.mem_map_of_mem hp)⟩) BG (X₀.keeps st) (T.keeps st)) (fun fl s' hl => lv _ _ hl) fun _ _ y => y
end
noncomputable def SpecX (prog : Program) (w : World) (K : Frag) (p : Program) (loose : List Str) (mean : ExcName → Option Value) (mg mb : Str → Option Value) (dd uu : Nat) (f : Addr) (vs : List Value) (T : Led) (Post : Value → Led → Prop) : Prop :=
  ∀ (dp un : Nat) (gd : Option (List Code)) (cn : Str) (cs : Scope) (a : Addr) (ccd : Value) (cl : List (Str × Addr)) (outer : List Env) (A₀ : Around) (base h₀ : Heap) (L : Addr) (m : Str → Option Value) (s : Shared) (Q E : Value → Shared → Prop),
    Below A₀ base outer h₀ → Fr h₀ L s.heap m → K.In h₀ → News h₀ L s.heap T → Top p loose mean mg mb h₀ → cs.kind = .function → dp + dd < recursionLimit → un + uu < cLine →
    (∀ (r : Value) (new : Led) (h' : Heap) (tk' : Nat), Fr h₀ L h' m → News h₀ L h' (new ++ T) → (∀ q ∈ T, ∀ p ∈ new, q.1 < p.1) → Post r new → Q r { s with heap := h', toks := tk' }) →
    wpX (model prog w) (ktrTop dp un gd cn cs L a ccd cl outer) (call (.ref f) vs) Q E s
end Mine
end
section
open PySem PySem.W PyProof.Rows PySem.Calls
set_option maxRecDepth 100000
namespace Mine
noncomputable def Stop (P : Prop) : Prop := P
theorem Stop.mk {P : Prop} (h : Stop P) : P := h
theorem Stop.in {P : Prop} (h : P) : Stop P := h
noncomputable def TurnJ (h₀ : Heap) (L I : Addr) (it : Obj) (Jn : (Str → Option Value) → Led → Prop) (s₁ : Shared) (Q : Flow → Shared → Prop) (f : Flow) (s₂ : Shared) : Prop :=
  match f with
  | .ret v => Q (.ret v) s₂
  | .brk => Q .next s₂
  | _ => ∃ h' tk m' news', s₂ = { s₁ with heap := h', toks := tk } ∧ Fr h₀ L h' m' ∧ News h₀ L h' ((I, it) :: news') ∧ (∀ p ∈ news', p.1 ≠ I) ∧ Jn m' news'
section
variable {prog : Program} {w : World} {A : Around} {E : Value → Shared → Prop} {s : Shared} {env : Env} {h₀ : Heap} {x : Str} {body : List Stmt} {Q : Flow → Shared → Prop}
theorem loop_gen {I : Addr} {fp : List Addr} {n : Nat} {P : Nat → Value → Prop} {St : Nat → Heap → Prop} {m₀ : Str → Option Value} {news fix : Led} (ic : Obj → Prop) (J : Nat → (Str → Option Value) → Led → Prop)
    (W : Walks prog w A I fp [I] n P St) (hfI : I ∈ fp) (hLf : env.locals ∉ fp) (hI : h₀.get? I = none) (hob : ∀ i h, St i h → ∃ o, h.get? I = some o ∧ ic o)
    (hfp : ∀ b ∈ fp, b = I ∨ (∃ q, h₀.get? b = some q) ∨ ∃ o, (b, o) ∈ fix) (hfix : ∀ i m led, J i m led → ∀ p ∈ fix, p ∈ led)
    (hnw : ∀ p ∈ news, p.1 ≠ I) (hst : St 0 s.heap) (F : Fr h₀ env.locals s.heap m₀) (N : News h₀ env.locals s.heap news) (hj : J 0 m₀ news)
    (turn : ∀ i v m₁ news₁ h tk it, i < n → P i v → J i m₁ news₁ → (∀ p ∈ news₁, p.1 ≠ I) → ic it → Fr h₀ env.locals h (fun y => if y = x then some v else m₁ y) → News h₀ env.locals h ((I, it) :: news₁) →
      wpAny (model prog w) A (execs body env) (TurnJ h₀ env.locals I it (J (i + 1)) { s with heap := h, toks := tk } Q) E { s with heap := h, toks := tk })
    (done : ∀ m₁ news₁ h tk, J n m₁ news₁ → Fr h₀ env.locals h m₁ → News h₀ env.locals h news₁ → Q .next { s with heap := h, toks := tk }) :
    LoopAtV prog w A h₀ env x body Q E (.ref I) s := by
  refine ⟨I, fp, [I], n, P, St, m₀, news, J, rfl, W, hLf, ?_, ?_, hst, F, N, hj, ?_, ?_⟩
  · intro b hb; rw [List.mem_singleton.mp hb]; exact hI
  · intro p hp hm; exact hnw p hp (List.mem_singleton.mp hm)
  · rintro i v m₁ news₁ s₁ own ⟨hh', tk', rfl⟩ hin hP hJ hoff hown hheap hall hst' F₁ N₁
    obtain ⟨it, hit, hic⟩ := hob _ _ hst'
    have hio : (I, it) ∈ own := hall I hfI hI it hit
    have hn1 : ∀ p ∈ news₁, p.1 ≠ I := fun p hp e => hoff p hp (by rw [e]; exact List.mem_singleton.mpr rfl)
    have N₂ : News h₀ env.locals hh' ((I, it) :: news₁) := fun p hp => by
      rcases List.mem_cons.mp hp with e | hp
      · rw [e]; exact N₁ _ (List.mem_append_left _ hio)
      · exact N₁ _ (List.mem_append_right _ hp)
    refine wpAny_mono (turn i v m₁ news₁ hh' tk' it hin hP hJ hn1 hic F₁ N₂) (fun f s₂ p => ?_) fun _ _ e => e
    have fin : (∃ h' tk m' news', s₂ = { ({ s with heap := hh', toks := tk' } : Shared) with heap := h', toks := tk } ∧ Fr h₀ env.locals h' m' ∧ News h₀ env.locals h' ((I, it) :: news') ∧ (∀ p ∈ news', p.1 ≠ I) ∧ J (i + 1) m' news') →
        LoopStepU h₀ env.locals [I] own (J (i + 1)) { s with heap := hh', toks := tk' } .next s₂ := by
      rintro ⟨h', tk, m', news', e, F', N', hn, hj'⟩
      refine ⟨rfl, h', tk, m', news', e, F', fun p hp => ?_, fun p hp hm => hn p hp (List.mem_singleton.mp hm), hj'⟩
      rcases List.mem_append.mp hp with hp | hp
      · rcases hfp p.1 (hown p hp) with e1 | ⟨q, hq⟩ | ⟨o, ho⟩
        · have h4 := hheap p hp
          rw [e1, show ({ s with heap := hh', toks := tk' } : Shared).heap.get? I = some it from hit] at h4
          have e2 : p = (I, it) := Prod.ext e1 (Option.some.inj h4).symm
          rw [e2]; exact N' _ (.head _)
        · have h5 := (N₁ p (List.mem_append_left _ hp)).2.2
          rw [hq] at h5; cases h5
        · have h6 := hfix _ _ _ hJ _ ho
          have h7 := (N₁ _ (List.mem_append_right _ h6)).1
          have h8 := hheap p hp
          rw [show ({ s with heap := hh', toks := tk' } : Shared).heap = hh' from rfl] at h8
          rw [h7] at h8
          have e2 : p = (p.1, o) := Prod.ext rfl (Option.some.inj h8).symm
          rw [e2]; exact N' _ (.tail _ (hfix _ _ _ hj' _ ho))
      · exact N' _ (.tail _ hp)
    cases f with
    | ret v => exact .ret p
    | brk => exact .brk p
    | next => exact .next (fin p)
    | cont => exact .cont (fin p)
  · rintro h' tk m' news' F' N' _ hJ
    exact done m' news' h' tk hJ F' N'

theorem iter_rangeJ {r : Addr} {a b c : Int} {t u v : Tok} {n : Nat} {m₀ : Str → Option Value} {news : Led} (J : Nat → (Str → Option Value) → Led → Prop)
    (hh : A.handled = none) (hr : IsRange s.heap r a b c t u v) (hsmall : Builtin.Range.small a b c = true) (hn : Builtin.Range.rangeSize a b c = (n : Int)) (F : Fr h₀ env.locals s.heap m₀) (N : News h₀ env.locals s.heap news) (hj : J 0 m₀ news)
    (turn : ∀ I i t' m₁ news₁ h tk it, i < n → J i m₁ news₁ → (∀ p ∈ news₁, p.1 ≠ I) → (∀ p ∈ news, @LT.lt Nat _ p.1 I) → it.cls = .type "range_iterator" → Fr h₀ env.locals h (fun y => if y = x then some (.int (a + (i : Int) * c) t') else m₁ y) → News h₀ env.locals h ((I, it) :: news₁) →
      wpAny (model prog w) A (execs body env) (TurnJ h₀ env.locals I it (J (i + 1)) { s with heap := h, toks := tk } Q) E { s with heap := h, toks := tk })
    (done : ∀ m₁ news₁ h tk, J n m₁ news₁ → Fr h₀ env.locals h m₁ → News h₀ env.locals h news₁ → Q .next { s with heap := h, toks := tk }) :
    wpAny (model prog w) A (pyIter (.ref r)) (fun it s₂ => LoopAtV prog w A h₀ env x body Q E it s₂) E s := by
  refine wpAny_pyIter_range hr hsmall ?_
  have W := (Walks.range (prog := prog) (w := w) hh s.heap.objs.size a c n).bound
  have W2 : Walks prog w A s.heap.objs.size [s.heap.objs.size] [s.heap.objs.size] n (fun i v => i < n ∧ ∃ t, v = .int (a + (i : Int) * c) t)
      (fun i h => IsRangeIter h s.heap.objs.size (a + (i : Nat) * c) ((n : Int) - (i : Nat)) c) := W
  refine loop_gen (fix := []) (fun o => o.cls = .type "range_iterator") J W2 (by simp) ?_ (next_is_new F) (fun i h hst => ⟨_, hst, rfl⟩) (fun b hb => .inl (List.mem_singleton.mp hb)) (fun _ _ _ _ _ hp => nomatch hp) (fun p hp e => ?_) ?_ (F.push _) (fun p hp => ⟨Heap.get?_push_of_some _ (N p hp).1, (N p hp).2⟩) hj ?_ ?_
  · intro hm
    exact absurd F.ns.lt ((List.mem_singleton.mp hm) ▸ Nat.lt_irrefl _)
  · exact absurd (Heap.lt_size (N p hp).1) (e ▸ Nat.lt_irrefl _)
  · show IsRangeIter _ _ _ _ _
    rw [hn]
    simpa using Heap.get?_push_size _ rfl
  · rintro i v m₁ news₁ h tk it hi ⟨_, t', rfl⟩ hJ hne hic F₁ N₁
    exact turn _ i t' m₁ news₁ h tk it hi hJ hne (fun p hp => Heap.lt_size (N p hp).1) hic F₁ N₁
  · exact done
noncomputable def NotCode (o : Obj) : Prop := ∀ (vs : Array Value) (q : Str) (t : Tok), o.data = .fields vs → vs[1]? ≠ some (.str q t)
end
end Mine
end
section
open PySem PySem.W PyProof.Rows PySem.Calls
set_option maxRecDepth 100000
namespace Mine
noncomputable def TurnD (h₀ : Heap) (L I : Addr) (it : Obj) (stored : List Str) (m₀ : Str → Option Value) (d : Addr) (Dn : Obj → Prop) (T : Led) (s₁ : Shared) (Q : Flow → Shared → Prop) (f : Flow) (s₂ : Shared) : Prop :=
  match f with
  | .ret v => Q (.ret v) s₂
  | .brk => Q .next s₂
  | _ => ∃ h' tk m' o, s₂ = { s₁ with heap := h', toks := tk } ∧ Fr h₀ L h' m' ∧ News h₀ L h' ((I, it) :: (d, o) :: T) ∧ (∀ y, stored.contains y = false → m' y = m₀ y) ∧ Dn o
noncomputable def mapD (stored : List Str) (u m₀ : Str → Option Value) : Str → Option Value := fun y => if stored.contains y then u y else m₀ y
theorem mapD_of {stored : List Str} {m' m₀ : Str → Option Value} (h : ∀ y, stored.contains y = false → m' y = m₀ y) : m' = mapD stored m' m₀ := by
  funext y
  unfold mapD
  cases e : stored.contains y with
  | true => rfl
  | false => exact h y e
theorem mapD_self {stored : List Str} {m₀ : Str → Option Value} : m₀ = mapD stored m₀ m₀ := by
  funext y
  unfold mapD
  split <;> rfl
noncomputable def JD (stored : List Str) (m₀ : Str → Option Value) (d : Addr) (T : Led) (Dp : Nat → Obj → Prop) (i : Nat) (m : Str → Option Value) (led : Led) : Prop :=
  ∃ u o, m = mapD stored u m₀ ∧ led = (d, o) :: T ∧ Dp i o
section
variable {prog : Program} {w : World} {A : Around} {E : Value → Shared → Prop} {s : Shared} {env : Env} {h₀ : Heap} {x : Str} {body : List Stmt} {Q : Flow → Shared → Prop}
theorem TurnD.toJ {L I d : Addr} {it : Obj} {stored : List Str} {m₀ : Str → Option Value} {Dp : Nat → Obj → Prop} {T : Led} {s₁ s₂ : Shared} {f : Flow} {i : Nat} (hd : d ≠ I) (hT : ∀ p ∈ T, p.1 ≠ I)
    (h : TurnD h₀ L I it stored m₀ d (Dp i) T s₁ Q f s₂) : TurnJ h₀ L I it (JD stored m₀ d T Dp i) s₁ Q f s₂ := by
  have conv : (∃ h' tk m' o, s₂ = { s₁ with heap := h', toks := tk } ∧ Fr h₀ L h' m' ∧ News h₀ L h' ((I, it) :: (d, o) :: T) ∧ (∀ y, stored.contains y = false → m' y = m₀ y) ∧ Dp i o) →
      ∃ h' tk m' news', s₂ = { s₁ with heap := h', toks := tk } ∧ Fr h₀ L h' m' ∧ News h₀ L h' ((I, it) :: news') ∧ (∀ p ∈ news', p.1 ≠ I) ∧ JD stored m₀ d T Dp i m' news' := by
    rintro ⟨h', tk, m', o, e, F, N, hm, hD⟩
    refine ⟨h', tk, m', (d, o) :: T, e, F, N, fun p hp => ?_, m', o, mapD_of hm, rfl, hD⟩
    rcases List.mem_cons.mp hp with rfl | hp
    · exact hd
    · exact hT p hp
  cases f with
  | ret v => exact h
  | brk => exact h
  | next => exact conv h
  | cont => exact conv h
theorem iter_rangeD {r : Addr} {a b c : Int} {t u v : Tok} {n : Nat} {m₀ : Str → Option Value} {d : Addr} {o₀ : Obj} {T : Led} (stored : List Str) (Dp : Nat → Obj → Prop)
    (hh : A.handled = none) (hr : IsRange s.heap r a b c t u v) (hsmall : Builtin.Range.small a b c = true) (hn : Builtin.Range.rangeSize a b c = (n : Int)) (F : Fr h₀ env.locals s.heap m₀) (N : News h₀ env.locals s.heap ((d, o₀) :: T)) (h0 : Dp 0 o₀)
    (turn : ∀ I i t' u o h tk it, i < n → Dp i o → d ≠ I → (∀ p ∈ T, p.1 ≠ I) → (∀ p ∈ T, @LT.lt Nat _ p.1 I) → @LT.lt Nat _ d I → it.cls = .type "range_iterator" → Fr h₀ env.locals h (fun y => if y = x then some (.int (a + (i : Int) * c) t') else mapD stored u m₀ y) → News h₀ env.locals h ((I, it) :: (d, o) :: T) →
      wpAny (model prog w) A (execs body env) (TurnD h₀ env.locals I it stored m₀ d (Dp (i + 1)) T { s with heap := h, toks := tk } Q) E { s with heap := h, toks := tk })
    (done : ∀ u o h tk, Dp n o → Fr h₀ env.locals h (mapD stored u m₀) → News h₀ env.locals h ((d, o) :: T) → Q .next { s with heap := h, toks := tk }) :
    wpAny (model prog w) A (pyIter (.ref r)) (fun it s₂ => LoopAtV prog w A h₀ env x body Q E it s₂) E s := by
  refine iter_rangeJ (JD stored m₀ d T Dp) hh hr hsmall hn F N ⟨m₀, o₀, mapD_self, rfl, h0⟩ ?_ ?_
  · rintro I i t' m₁ news₁ h tk it hi ⟨u', o, rfl, rfl, hD⟩ hne hlt hic F₁ N₁
    have hd : d ≠ I := hne _ (.head _)
    have hT : ∀ p ∈ T, p.1 ≠ I := fun p hp => hne p (.tail _ hp)
    exact wpAny_mono (turn I i t' u' o h tk it hi hD hd hT (fun p hp => hlt p (.tail _ hp)) (hlt (d, o₀) (.head _)) hic F₁ N₁) (fun f s₂ z => z.toJ hd hT) fun _ _ z => z
  · rintro m₁ news₁ h tk ⟨u', o, rfl, rfl, hD⟩ F₁ N₁
    exact done u' o h tk hD F₁ N₁
end
theorem range_small' {a b c : Int} (ha : 0 ≤ a ∧ a < 1000000) (hb : 0 ≤ b ∧ b < 1000000) (hc : 0 < c ∧ c < 1000000) : Builtin.Range.small a b c = true := by
  have h := Int.ediv_nonneg (a := b - a - 1) (b := c)
  have h2 : (b - a - 1) / c ≤ 1000000 := by
    apply Int.le_of_lt_add_one
    apply Int.ediv_lt_of_lt_mul hc.1
    have : (1000000 + 1) * 1 ≤ (1000000 + 1) * c := Int.mul_le_mul_of_nonneg_left (by omega) (by omega)
    omega
  have h4 : 0 ≤ Builtin.Range.rangeSize a b c ∧ Builtin.Range.rangeSize a b c ≤ 1000001 := by
    unfold Builtin.Range.rangeSize
    rw [if_pos hc.1]
    split
    · have h3 := h (by omega) (by omega)
      omega
    · omega
  unfold Builtin.Range.small
  simp only [Builtin.Range.rangeFitsLong, Bool.and_eq_true, Bool.or_eq_true, decide_eq_true_eq, beq_iff_eq, gt_iff_lt]
  clear h h2
  generalize Builtin.Range.rangeSize a b c = n at *
  refine ⟨⟨⟨⟨⟨?_, ?_⟩, ?_, ?_⟩, ?_, ?_⟩, ?_, ?_⟩, ?_⟩
  all_goals first | omega | (right; rw [if_pos hc.1]; simp only [Bool.and_eq_true, decide_eq_true_eq]; omega)
theorem range_size' {n w : Int} {q : Nat} (hw : 0 < w) (hq : n = q * w) : Builtin.Range.rangeSize 0 n w = (q : Int) := by
  rw [rangeSize_pos (by omega) (by rw [hq]; exact Int.mul_nonneg (by omega) (by omega)), hq]
  rw [show (q : Int) * w + w - 1 = (w - 1) + q * w from by omega]
  rw [Int.add_mul_ediv_right _ _ (by omega)]
  rw [Int.ediv_eq_zero_of_lt (by omega) (by omega)]
  omega
theorem news_swap {h₀ h : Heap} {L : Addr} {p q : Addr × Obj} {T : Led} (N : News h₀ L h (p :: q :: T)) : News h₀ L h (q :: p :: T) := fun x hx => N x (by
  rcases List.mem_cons.mp hx with rfl | hx
  · exact .tail _ (.head _)
  · rcases List.mem_cons.mp hx with rfl | hx
    · exact .head _
    · exact .tail _ (.tail _ hx))
theorem range_size1 {n : Int} {q : Nat} (hq : n = q) : Builtin.Range.rangeSize 0 n 1 = (q : Int) := by
  subst hq
  have := range_size' (n := (q : Int)) (w := 1) (q := q) (by omega) (by omega)
  exact this
theorem TurnD.fin {h₀ h' : Heap} {L I d : Addr} {it o : Obj} {stored : List Str} {m₀ m' : Str → Option Value} {Dn : Obj → Prop} {T : Led} {s₁ : Shared} {tk : Nat} {Q : Flow → Shared → Prop}
    (F : Fr h₀ L h' m') (N : News h₀ L h' ((I, it) :: (d, o) :: T)) (hm : ∀ y, stored.contains y = false → m' y = m₀ y) (hD : Dn o) : TurnD h₀ L I it stored m₀ d Dn T s₁ Q .next { s₁ with heap := h', toks := tk } :=
  ⟨h', tk, m', o, rfl, F, N, hm, hD⟩
theorem map_base {stored : List Str} {u m₀ : Str → Option Value} : ∀ y, stored.contains y = false → mapD stored u m₀ y = m₀ y := fun y hy => by unfold mapD; rw [hy]; rfl
theorem map_self {stored : List Str} {m₀ : Str → Option Value} : ∀ y, stored.contains y = false → m₀ y = m₀ y := fun _ _ => rfl
theorem map_peel {stored : List Str} {a : Str} {v : Option Value} {m m₀ : Str → Option Value} (ha : stored.contains a = true) (h : ∀ y, stored.contains y = false → m y = m₀ y) :
    ∀ y, stored.contains y = false → (if y = a then v else m y) = m₀ y := fun y hy => by
  rw [if_neg (fun e => by rw [e, ha] at hy; cases hy)]
  exact h y hy
theorem map_inner {stored inner : List Str} {u m m₀ : Str → Option Value} (hi : (inner.all fun y => stored.contains y) = true) (h : ∀ y, stored.contains y = false → m y = m₀ y) :
    ∀ y, stored.contains y = false → mapD inner u m y = m₀ y := fun y hy => by
  unfold mapD
  have e : inner.contains y = false := by
    cases e : inner.contains y with
    | false => rfl
    | true =>
      exfalso
      have h2 := List.all_eq_true.mp hi y (List.contains_iff_mem.mp e)
      rw [hy] at h2
      cases h2
  rw [e]
  exact h y hy
end Mine
end
section
open PySem PySem.W PyProof.Rows PySem.Calls
set_option maxRecDepth 100000
namespace Mine
section
variable {prog : Program} {w : World} {A : Around} {E : Value → Shared → Prop} {s : Shared} {h₀ : Heap} {L D : Addr} {m : Str → Option Value} {news news' : Led}
theorem setItem_baK {b : Array UInt8} {k x : Int} {t u : Tok} {Q : Unit → Shared → Prop} (F : Fr h₀ L s.heap m) (N : News h₀ L s.heap news) (U : Upd D (baObj b) (baObj (b.setIfInBounds k.toNat x.toNat.toUInt8)) news news')
    (hz : b.size ≤ 1000000 ∧ (0 ≤ k ∧ k < (b.size : Int))) (hx : 0 ≤ x ∧ x < 256) (h : ∀ h', Fr h₀ L h' m → News h₀ L h' news' → Q () { s with heap := h' }) :
    wpAny (model prog w) A (setItem (.ref D) (.int k t) (.int x u)) Q E s := by
  obtain ⟨pre, post, rfl, rfl, a, b'⟩ := U.split
  have z := N (D, baObj b) (List.mem_append.mpr (.inr (.head _)))
  refine ba_setAt z.1 hz.2.1 hz.2.2 hz.1 hx ?_
  have hs := Heap.SameBut.update s.heap D (Obj.mapBytearray (·.setIfInBounds k.toNat x.toNat.toUInt8))
  exact h _ (F.change hs z.2.1 z.2.2) (news_set N a b' hs (Heap.get?_update_self (Obj.mapBytearray (·.setIfInBounds k.toNat x.toNat.toUInt8)) z.1 rfl))
theorem bytes_baK {b : Array UInt8} {Q : Value → Shared → Prop} (hh : A.handled = none) (F : Fr h₀ L s.heap m) (N : News h₀ L s.heap news) (hm : (D, baObj b) ∈ news) (hz : b.size ≤ 1000000)
    (h : ∀ t tk, Q (.bytes b t) { s with toks := tk }) : wpAny (model prog w) A (call (.type "bytes") [.ref D]) Q E s :=
  ba_bytes (N _ hm).1 hz hh h
end
theorem item_bK {prog : Program} {w : World} {A : Around} {E : Value → Shared → Prop} {s : Shared} {value slice : Expr} {b : Array UInt8} {t u : Tok} {i : Int} {Q : Value → Shared → Prop} (hz : b.size ≤ 1000000) (h0 : 0 ≤ i ∧ i < b.size)
    (h : Q (.int ((b.getD i.toNat 0).toNat : Int) s.toks) { s with toks := s.toks + 1 })
    (hs : subscripted slice false (.bytes b t) (.int i u) = operate [.bytes b t, .int i u] (getItem (.bytes b t) (.int i u)) := by with_unfolding_all rfl)
    (ht : ∀ r, letTemporaryGo value (.bytes b t) r = pure () := by intro _; with_unfolding_all rfl) : wpAny (model prog w) A (subscriptTail value slice (.bytes b t) (.int i u)) Q E s := by
  refine subscriptTail_builtin (typeIs_bytes _ _ _) PySem.W.FB.slot_bytes_getitem.lookup ?_ hs ht
  have e1 : b = b.toList.toArray := by simp
  have e2 : b.getD i.toNat 0 = b.toList.getD i.toNat 0 := by simp [Array.getD_eq_getD_getElem?, List.getD_eq_getElem?_getD]
  rw [e2] at h
  have hl : b.toList.length = b.size := by simp
  generalize b.toList = l at *
  subst e1
  exact getItem_bytes (by omega) h0.1 (by omega) h
theorem byte_rng (c : UInt8) : 0 ≤ (c.toNat : Int) ∧ (c.toNat : Int) < 256 := by have := c.toNat_lt; omega
noncomputable def bswIn (b : Array UInt8) (w q : Nat) (acc : Array UInt8) : Nat → Array UInt8
  | 0 => acc
  | j + 1 => (bswIn b w q acc j).setIfInBounds (q * w + w - 1 - j) (b.getD (q * w + j) 0)
noncomputable def bswOut (b : Array UInt8) (w : Nat) : Nat → Array UInt8
  | 0 => Array.replicate b.size 0
  | q + 1 => bswIn b w q (bswOut b w q) w
theorem bswIn_size (b : Array UInt8) (w q : Nat) (acc : Array UInt8) : ∀ j, (bswIn b w q acc j).size = acc.size
  | 0 => rfl
  | j + 1 => by rw [bswIn, Array.size_setIfInBounds, bswIn_size b w q acc j]
theorem bswOut_size (b : Array UInt8) (w : Nat) : ∀ q, (bswOut b w q).size = b.size
  | 0 => by rw [bswOut, Array.size_replicate]
  | q + 1 => by rw [bswOut, bswIn_size, bswOut_size b w q]
theorem bsw0 {b : Array UInt8} {w : Nat} : baObj (Array.replicate (b.size : Int).toNat 0) = baObj (bswOut b w 0) := rfl -- walkbytes
end Mine
end
section
open PySem PySem.W PyProof.Rows PySem.Calls
set_option maxRecDepth 100000
set_option exponentiation.threshold 6000
namespace Mine
noncomputable def big : Nat := 10000000
noncomputable def Small (a : Int) : Prop := a.natAbs < 2 ^ big
theorem Small.bits {a : Int} (h : Small a) : Builtin.Int.intBits a ≤ big := intBits_le h
theorem small_pow {a : Int} {k : Nat} (h : a.natAbs < 2 ^ k) (hk : k ≤ big) : Small a := Nat.lt_of_lt_of_le h (Nat.pow_le_pow_right (by decide) hk)
theorem small_int {a : Int} (h : -1000000000 < a ∧ a < 1000000000) : Small a := small_pow (k := 30) (by omega) (by unfold big; omega)
section
variable {prog : Program} {w : World} {A : Around} {E : Value → Shared → Prop} {s : Shared} {t u : Tok} {a b : Int}
theorem rshift1_K {Q : Value → Shared → Prop} (h : Q (.int (a / 2) s.toks) { s with toks := s.toks + 1 }) : wpAny (model prog w) A (binaryOp .RShift (.int a t) (.int 1 u)) Q E s := by
  refine rshift_int (by omega) ?_
  rw [show (2 : Int) ^ (1 : Int).toNat = 2 from rfl, Int.fdiv_eq_ediv_of_nonneg _ (by omega)]
  exact h
theorem rshift_K {Q : Value → Shared → Prop} (hb : 0 ≤ b) (h : Q (.int (a / 2 ^ b.toNat) s.toks) { s with toks := s.toks + 1 }) : wpAny (model prog w) A (binaryOp .RShift (.int a t) (.int b u)) Q E s := by
  refine rshift_int hb ?_
  rw [Int.fdiv_eq_ediv_of_nonneg _ (Int.pow_nonneg (by omega))]
  exact h
theorem lshift_K {Q : Value → Shared → Prop} (hs : Small a) (hb : 0 ≤ b ∧ b ≤ 10000000) (h : Q (.int (a * 2 ^ b.toNat) s.toks) { s with toks := s.toks + 1 }) : wpAny (model prog w) A (binaryOp .LShift (.int a t) (.int b u)) Q E s := by
  refine lshift_int hb.1 ?_ h
  have := hs.bits
  unfold big at this
  omega
theorem mul_K {Q : Value → Shared → Prop} (ha : Small a) (hb : Small b) (h : Q (.int (a * b) s.toks) { s with toks := s.toks + 1 }) : wpAny (model prog w) A (binaryOp .Mult (.int a t) (.int b u)) Q E s := by
  refine PyProof.Rows.mul_int h ?_
  unfold IntMulOk
  have h1 := ha.bits
  have h2 := hb.bits
  unfold big at h1 h2
  rw [show Builtin.Int.intTooBig ((Builtin.Int.intBits a : Int) + (Builtin.Int.intBits b : Int)) = false from by
    unfold Builtin.Int.intTooBig bitsLine
    simp only [decide_eq_false_iff_not]
    omega]
  simp
end
section
variable {prog : Program} {w : World} {A : Around} {E : Value → Shared → Prop} {s : Shared} {h₀ : Heap} {L l : Addr} {news : Led} {vs : List Value} {ds : List Int} {k : Nat} {i : Int} {u : Tok}
theorem len_lK {Q : Value → Shared → Prop} (N : News h₀ L s.heap news) (hm : (l, listOf vs.toArray k) ∈ news) (hz : vs.length ≤ 1000000)
    (h : ∀ t, Q (.int vs.length t) { s with toks := s.toks + 1 + 1 }) : wpAny (model prog w) A (call (.builtin "len") [.ref l]) Q E s :=
  PySem.Calls.call_len_list (PySem.IsL.isList (n := k) (N _ hm).1) (by rw [List.size_toArray]; omega) (by rw [List.size_toArray]; exact h _)
theorem truthy_lK {Q : Bool → Shared → Prop} (N : News h₀ L s.heap news) (hm : (l, listOf vs.toArray k) ∈ news) (hz : vs.length ≤ 1000000)
    (h : Q (decide (0 < vs.length)) { s with toks := s.toks + 1 + 1 }) : wpAny (model prog w) A (truthy (.ref l)) Q E s :=
  wpAny_truthy_list (PySem.IsL.isList (n := k) (N _ hm).1) (by rw [List.size_toArray]; omega) (by
    have e : (!vs.toArray.isEmpty) = decide (0 < vs.length) := by cases vs <;> simp
    rw [e]; exact h)
end
noncomputable def dnum (n : Nat) : List Int → Int
  | [] => 0
  | d :: r => d + 2 ^ n * dnum n r
theorem dnum_append (n : Nat) : ∀ (a b : List Int), dnum n (a ++ b) = dnum n a + 2 ^ (n * a.length) * dnum n b
  | [], b => by simp [dnum]
  | d :: r, b => by
    rw [List.cons_append, dnum, dnum, dnum_append n r b, List.length_cons, Nat.mul_succ, Int.pow_add, Int.mul_add]
    rw [show (2 : Int) ^ (n * r.length) * 2 ^ n * dnum n b = 2 ^ n * (2 ^ (n * r.length) * dnum n b) from by rw [Int.mul_comm (2 ^ (n * r.length)) (2 ^ n), Int.mul_assoc]]
    omega
noncomputable def seg (ds : List Int) (lo hi : Nat) : List Int := (ds.drop lo).take (hi - lo)
theorem seg_split (ds : List Int) {lo mid hi : Nat} (h1 : lo ≤ mid) (h2 : mid ≤ hi) : seg ds lo hi = seg ds lo mid ++ seg ds mid hi := by
  unfold seg
  have e : hi - lo = (mid - lo) + (hi - mid) := by omega
  rw [e, List.take_add, List.drop_drop]
  congr 3
  omega
theorem seg_len (ds : List Int) {lo hi : Nat} (h : hi ≤ ds.length) : (seg ds lo hi).length = hi - lo := by
  unfold seg
  rw [List.length_take, List.length_drop]
  omega
theorem seg_one (ds : List Int) {lo : Nat} (h : lo < ds.length) : seg ds lo (lo + 1) = [ds.getD lo 0] := by
  unfold seg
  rw [show lo + 1 - lo = 1 from by omega, List.drop_eq_getElem_cons h, List.take_succ_cons, List.take_zero]
  simp [List.getD_eq_getElem?_getD, h]
theorem dnum_small (n k : Nat) : ∀ (ds : List Int), (∀ d ∈ ds, d.natAbs < 2 ^ k) → (dnum n ds).natAbs < 2 ^ (k + (n + 1) * ds.length)
  | [], _ => by simp [dnum]; exact Nat.two_pow_pos _
  | d :: r, h => by
    have h1 := h d (.head _)
    have h2 := dnum_small n k r fun x hx => h x (.tail _ hx)
    rw [dnum, List.length_cons, Nat.mul_succ]
    have h3 : (d + 2 ^ n * dnum n r).natAbs ≤ d.natAbs + 2 ^ n * (dnum n r).natAbs := by
      refine Nat.le_trans (Int.natAbs_add_le _ _) ?_
      rw [Int.natAbs_mul, Int.natAbs_pow]
      exact Nat.le_refl _
    have h4 : 2 ^ n * (dnum n r).natAbs < 2 ^ n * 2 ^ (k + (n + 1) * r.length) := Nat.mul_lt_mul_of_pos_left h2 (Nat.two_pow_pos _)
    rw [← Nat.pow_add] at h4
    have h5 : 2 ^ k ≤ 2 ^ (n + (k + (n + 1) * r.length)) := Nat.pow_le_pow_right (by decide) (by omega)
    have h6 : 2 ^ (k + ((n + 1) * r.length + (n + 1))) = 2 * 2 ^ (n + (k + (n + 1) * r.length)) := by
      rw [← Nat.pow_succ']
      congr 1
      omega
    omega
theorem dnum_one (n : Nat) {ds : List Int} {lo : Nat} (h : lo < ds.length) : dnum n (seg ds lo (lo + 1)) = ds.getD lo 0 := by rw [seg_one ds h]; simp [dnum]
theorem dnum_join {n : Int} {ds : List Int} {lo mid hi : Nat} (hn : 0 ≤ n) (h1 : lo ≤ mid) (h2 : mid ≤ hi) (h3 : hi ≤ ds.length) {sh : Int} (hsh : sh = ((mid : Int) - lo) * n) :
    dnum n.toNat (seg ds mid hi) * 2 ^ sh.toNat + dnum n.toNat (seg ds lo mid) = dnum n.toNat (seg ds lo hi) := by
  rw [seg_split ds h1 h2, dnum_append, seg_len ds (by omega)]
  have e : sh.toNat = n.toNat * (mid - lo) := by
    have e1 : ((mid : Int) - lo) = ((mid - lo : Nat) : Int) := by omega
    have e2 : n = (n.toNat : Int) := by omega
    rw [hsh, e1, e2, ← Int.natCast_mul, Int.toNat_natCast, Nat.mul_comm, Int.toNat_natCast]
  rw [e, Int.mul_comm, Int.add_comm]
theorem seg_mem {ds : List Int} {lo hi : Nat} {d : Int} (h : d ∈ seg ds lo hi) : d ∈ ds := List.mem_of_mem_drop (List.mem_of_mem_take h)
theorem dnum_seg_small {n : Nat} {ds : List Int} {lo hi : Nat} (hn : n < 5000) (hl : ds.length < 200) (hd : ∀ d ∈ ds, d.natAbs < 2 ^ 5000) : Small (dnum n (seg ds lo hi)) := by
  refine small_pow (dnum_small n 5000 _ fun d hd' => hd d (seg_mem hd')) ?_
  have h1 : (seg ds lo hi).length ≤ 200 := by
    unfold seg
    rw [List.length_take, List.length_drop]
    omega
  have h2 : (n + 1) * (seg ds lo hi).length ≤ 5000 * 200 := Nat.mul_le_mul (by omega) h1
  unfold big
  omega
theorem shift_rng {a n : Int} (ha : 0 ≤ a ∧ a < 200) (hn : 0 < n ∧ n < 5000) : 0 ≤ a * n ∧ a * n ≤ 10000000 := by
  refine ⟨Int.mul_nonneg ha.1 (by omega), ?_⟩
  have := Int.mul_le_mul (a := a) (b := n) (c := 200) (d := 5000) (by omega) (by omega) (by omega) (by omega)
  omega
theorem allNe_lt {d D : Addr} {R : Led} (h : AllLt d R) (hd : @LE.le Nat _ d D) : ∀ p ∈ R, p.1 ≠ D := fun p hp e => by
  have := ktn_ltOf h p hp
  rw [e] at this
  exact absurd this (Nat.not_lt.mpr hd)
theorem with_ledger {h₀ h : Heap} {L : Addr} {news : Led} {G : Prop} (N : News h₀ L h news) (k : ∀ B, B = news → News h₀ L h B → G) : G := k news rfl N
theorem spec_use {prog : Program} {w : World} {K : Frag} {p : Program} {loose : List Str} {mean : ExcName → Option Value} {mg mb : Str → Option Value} {dd uu : Nat} {f : Addr} {vs : List Value} {T : Led} {Post : Value → Led → Prop}
    {dp un : Nat} {gd : Option (List Code)} {cn : Str} {cs : Scope} {a : Addr} {ccd : Value} {cl : List (Str × Addr)} {outer : List Env} {A₀ : Around} {base h₀ : Heap} {L : Addr} {m : Str → Option Value} {s : Shared} {Q E : Value → Shared → Prop}
    (S : Spec prog w K p loose mean mg mb dd uu f vs T Post) (B : Below A₀ base outer h₀) (F : Fr h₀ L s.heap m) (X : K.In h₀) (N : News h₀ L s.heap T) (Tp : Top p loose mean mg mb h₀) (hk : cs.kind = .function) (hd : dp + dd < recursionLimit) (hu : un + uu < cLine)
    (k : ∀ (r : Value) (new : Led) (h' : Heap) (tk' : Nat), Fr h₀ L h' m → News h₀ L h' (new ++ T) → (∀ q ∈ T, ∀ p ∈ new, q.1 < p.1) → Post r new → Q r { s with heap := h', toks := tk' }) :
    wpAny (model prog w) (ktrTop dp un gd cn cs L a ccd cl outer) (call (.ref f) vs) Q E s := S _ _ _ _ _ _ _ _ _ _ _ _ _ _ _ _ _ B F X N Tp hk hd hu k
theorem with_call {M : Model} {A : Around} {f : Addr} {vs : List Value} {Q E : Value → Shared → Prop} {s : Shared} (k : ∀ f', f' = f → wpAny M A (call (.ref f') vs) Q E s) : wpAny M A (call (.ref f) vs) Q E s := k f rfl
end Mine
end
section
open PySem PySem.W PyProof.Rows PySem.Calls
set_option maxRecDepth 100000
namespace Mine
noncomputable def SpecT (prog : Program) (w : World) (K : Frag) (p : Program) (loose : List Str) (mean : ExcName → Option Value) (mg mb : Str → Option Value) (dd uu : Nat) (f : Addr) (vs : List Value) (T : Led) (Post : Value → Led → Prop) : Prop :=
  ∀ (dp un : Nat) (gd : Option (List Code)) (cn : Str) (cs : Scope) (a : Addr) (ccd : Value) (cl : List (Str × Addr)) (outer : List Env) (A₀ : Around) (base h₀ : Heap) (L : Addr) (m : Str → Option Value) (s : Shared) (Q E : Value → Shared → Prop),
    Below A₀ base outer h₀ → Fr h₀ L s.heap m → K.In h₀ → News h₀ L s.heap T → Top p loose mean mg mb h₀ → cs.kind = .function → dp + dd < recursionLimit → un + uu < cLine →
    (∀ (r : Value) (T' : Led) (h' : Heap) (tk' : Nat), Fr h₀ L h' m → News h₀ L h' T' → Post r T' → Q r { s with heap := h', toks := tk' }) →
    wpAny (model prog w) (ktrTop dp un gd cn cs L a ccd cl outer) (call (.ref f) vs) Q E s
theorem news_sub {h₀ h : Heap} {L : Addr} {T T' : Led} (N : News h₀ L h T) (k : ∀ p ∈ T', p ∈ T) : News h₀ L h T' := fun p hp => N p (k p hp)
section
variable {prog : Program} {w : World} {K : Frag} {p : Program} {loose : List Str} {mean : ExcName → Option Value} {mg mb : Str → Option Value} {dd uu dd' uu' : Nat} {f : Addr} {vs : List Value} {T T₀ : Led} {Post Post' : Value → Led → Prop}
theorem SpecT.conv (S : SpecT prog w K p loose mean mg mb dd uu f vs T₀ Post) (hs : ∀ q ∈ T₀, q ∈ T) (k : ∀ r T', Post r T' → ∃ T'', (∀ q ∈ T'', q ∈ T') ∧ Post' r T'') : SpecT prog w K p loose mean mg mb dd uu f vs T Post' := by
  intro dp un gd cn cs a ccd cl outer A₀ base h₀ L m s Q E B F X N Tp hk hd hu hret
  refine S dp un gd cn cs a ccd cl outer A₀ base h₀ L m s Q E B F X (news_sub N hs) Tp hk hd hu fun r T' h' tk' F' N' hp => ?_
  obtain ⟨T'', h1, h2⟩ := k r T' hp
  exact hret r T'' h' tk' F' (news_sub N' h1) h2
theorem SpecT.news (k : (∀ h₀ L h, News h₀ L h T → False) ∨ ((∃ h₀ L h, News h₀ L h T) → SpecT prog w K p loose mean mg mb dd uu f vs T Post)) : SpecT prog w K p loose mean mg mb dd uu f vs T Post := by
  rcases k with k | k
  · intro dp un gd cn cs a ccd cl outer A₀ base h₀ L m s Q E B F X N
    exact (k _ _ _ N).elim
  · intro dp un gd cn cs a ccd cl outer A₀ base h₀ L m s Q E B F X N
    exact k ⟨_, _, _, N⟩ dp un gd cn cs a ccd cl outer A₀ base h₀ L m s Q E B F X N
theorem specT_use {dp un : Nat} {gd : Option (List Code)} {cn : Str} {cs : Scope} {a : Addr} {ccd : Value} {cl : List (Str × Addr)} {outer : List Env} {A₀ : Around} {base h₀ : Heap} {L : Addr} {m : Str → Option Value} {s : Shared} {Q E : Value → Shared → Prop} {T₁ : Led}
    (S : SpecT prog w K p loose mean mg mb dd uu f vs T Post) (B : Below A₀ base outer h₀) (F : Fr h₀ L s.heap m) (X : K.In h₀) (N : News h₀ L s.heap T₁) (Tp : Top p loose mean mg mb h₀) (hk : cs.kind = .function) (hs : ∀ q ∈ T, q ∈ T₁) (hd : dp + dd < recursionLimit) (hu : un + uu < cLine)
    (k : ∀ (r : Value) (T' : Led) (h' : Heap) (tk' : Nat), Fr h₀ L h' m → News h₀ L h' T' → Post r T' → Q r { s with heap := h', toks := tk' }) :
    wpAny (model prog w) (ktrTop dp un gd cn cs L a ccd cl outer) (call (.ref f) vs) Q E s := S _ _ _ _ _ _ _ _ _ _ _ _ _ _ _ _ _ B F X (news_sub N hs) Tp hk hd hu k
end
noncomputable def Cl (T : Led) : Prop := ∀ p ∈ T, p.2.cls ≠ .none ∨ ∃ v, p.2.data = .cell v
theorem Cl.nil : Cl [] := fun _ h => nomatch h
theorem Cl.cons {a : Addr} {o : Obj} {T : Led} (h : o.cls ≠ .none) (hT : Cl T) : Cl ((a, o) :: T) := fun p hp => by
  rcases List.mem_cons.mp hp with rfl | hp
  · exact .inl h
  · exact hT p hp
theorem Cl.cell {a : Addr} {o : Obj} {T : Led} {v : Option Value} (h : o.data = .cell v) (hT : Cl T) : Cl ((a, o) :: T) := fun p hp => by
  rcases List.mem_cons.mp hp with rfl | hp
  · exact .inr ⟨v, h⟩
  · exact hT p hp
noncomputable def TabOk (P : Addr) (li co : Nat) (q : Str) (A : Led) : Prop :=
  A = [(P, tabObj #[])] ∨ ∃ c' oc vs t, A = [(P, tabObj #[rawInt li, rawInt co, .ref c']), (c', oc)] ∧ oc.data = .fields vs ∧ vs[1]? = some (.str q t)
theorem TabOk.apart {h₀ h : Heap} {L P P' : Addr} {li co : Nat} {q : Str} {A : Led} (N : News h₀ L h ((P, tabObj #[]) :: A)) (hA : TabOk P' li co q A) (hP : P' ≠ P) : ∀ p ∈ A, p.1 ≠ P := by
  intro p hp e
  rcases hA with rfl | ⟨c', oc, vs, t, rfl, hd, hv⟩
  · rcases List.mem_singleton.mp hp with rfl
    exact hP e
  · rcases List.mem_cons.mp hp with rfl | hp
    · exact hP e
    · rcases List.mem_singleton.mp hp with rfl
      have h1 := (N _ (.head _)).1
      have h2 := (N (c', oc) (.tail _ (.tail _ (.head _)))).1
      have e' : c' = P := e
      rw [e'] at h2
      rw [h2] at h1
      cases h1
      cases hd
      cases hv
theorem Cl.apart {h₀ h : Heap} {L P : Addr} {ps : Array Value} {R : Led} (N : News h₀ L h ((P, tabObj ps) :: R)) (hR : Cl R) : ∀ p ∈ R, p.1 ≠ P := by
  intro p hp e
  have h1 := (N _ (.head _)).1
  have h2 := (N p (.tail _ hp)).1
  rw [e] at h2
  rw [h2] at h1
  have h3 := Option.some.inj h1
  rcases hR _ hp with h | ⟨v, h⟩
  · exact h (by rw [h3])
  · rw [h3] at h
    cases h
end Mine
namespace Mine
theorem tab_exit {h₀ h' : Heap} {L P c' : Addr} {li co : Nat} {q : Str} {oc : Obj} {vs : Array Value} {t : Tok} {R T1 : Led} (N : News h₀ L h' T1) (m1 : (P, tabObj #[rawInt li, rawInt co, .ref c']) ∈ T1) (m2 : (c', oc) ∈ T1) (hR : ∀ p ∈ R, p ∈ T1)
    (hd : oc.data = .fields vs) (hv : vs[1]? = some (.str q t)) : ∃ A', News h₀ L h' (A' ++ R) ∧ TabOk P li co q A' := by
  refine ⟨[(P, tabObj #[rawInt li, rawInt co, .ref c']), (c', oc)], fun p hp => ?_, .inr ⟨c', oc, vs, t, rfl, hd, hv⟩⟩
  rcases List.mem_append.mp hp with hp | hp
  · rcases List.mem_cons.mp hp with rfl | hp
    · exact N _ m1
    · rcases List.mem_singleton.mp hp with rfl
      exact N _ m2
  · exact N _ (hR _ hp)
theorem seg_all (ds : List Int) : seg ds 0 ds.length = ds := by unfold seg; rw [List.drop_zero, Nat.sub_zero, List.take_length]
end Mine
namespace Mine
theorem tab_in {h₀ h : Heap} {L P P' : Addr} {li co li' co' : Nat} {q q' : Str} {A B R : Led} (N : News h₀ L h (A ++ (B ++ R))) (hA : TabOk P li co q A) (hB : TabOk P' li' co' q' B) (hP : P' ≠ P) (hR : Cl R) :
    (A ++ (B ++ R) = (P, tabObj #[]) :: (B ++ R) ∧ ∀ p ∈ B ++ R, p.1 ≠ P) ∨ ∃ c0 oc0 vs0 t0, A ++ (B ++ R) = (P, tabObj #[rawInt li, rawInt co, .ref c0]) :: (c0, oc0) :: (B ++ R) ∧ oc0.data = .fields vs0 ∧ vs0[1]? = some (.str q t0) := by
  rcases hA with rfl | ⟨c', oc, vs, t, rfl, hd, hv⟩
  · refine .inl ⟨rfl, fun p hp => ?_⟩
    rcases List.mem_append.mp hp with hp | hp
    · exact TabOk.apart (news_sub N fun q hq => by
        rcases List.mem_cons.mp hq with rfl | hq
        · exact .head _
        · exact List.mem_append_right _ (List.mem_append_left _ hq)) hB hP p hp
    · exact Cl.apart (news_sub N fun q hq => by
        rcases List.mem_cons.mp hq with rfl | hq
        · exact .head _
        · exact List.mem_append_right _ (List.mem_append_right _ hq)) hR p hp
  · exact .inr ⟨c', oc, vs, t, rfl, hd, hv⟩
noncomputable def Tabs (P P' : Addr) (Tb : Led) : Prop := ∃ A B, Tb = A ++ B ∧ TabOk P 47 4 (Str.ofString "_digits2int.<locals>.inner") A ∧ TabOk P' 32 4 (Str.ofString "_int2digits.<locals>.inner") B
section
variable {prog : Program} {w : World} {K : Frag} {p : Program} {loose : List Str} {mean : ExcName → Option Value} {mg mb : Str → Option Value} {dd uu dd' uu' : Nat} {f : Addr} {vs : List Value} {R Tb : Led} {Post Post' : Value → Led → Prop}
theorem SpecT.tabA {P P' : Addr} (hT : Tabs P P' Tb) (hC : Cl R) (hP : P' ≠ P) {Good : Value → Prop}
    (S : ∀ T R₀, (∀ q ∈ R, q ∈ R₀) → ((T = (P, tabObj #[]) :: R₀ ∧ ∀ p ∈ R₀, p.1 ≠ P) ∨ ∃ c0 oc0 vs0 t0, T = (P, tabObj #[rawInt 47, rawInt 4, .ref c0]) :: (c0, oc0) :: R₀ ∧ oc0.data = .fields vs0 ∧ vs0[1]? = some (.str (Str.ofString "_digits2int.<locals>.inner") t0)) →
      SpecT prog w K p loose mean mg mb dd uu f vs T (fun v T' => Good v ∧ ∃ A', T' = A' ++ R₀ ∧ TabOk P 47 4 (Str.ofString "_digits2int.<locals>.inner") A')) :
    SpecT prog w K p loose mean mg mb dd uu f vs (R ++ Tb) (fun v T' => Good v ∧ ∃ Tb', T' = R ++ Tb' ∧ Tabs P P' Tb') := by
  obtain ⟨A, B, rfl, hA, hB⟩ := hT
  refine SpecT.news (.inr fun ⟨h₀, L, h, N⟩ => ?_)
  refine (S (A ++ (B ++ R)) (B ++ R) (fun q hq => List.mem_append_right _ hq) (tab_in (news_sub N ?_) hA hB hP hC)).conv ?_ ?_
  · intro q hq
    simp only [List.mem_append] at hq ⊢
    rcases hq with hq | hq | hq <;> simp [hq]
  · intro q hq
    simp only [List.mem_append] at hq ⊢
    rcases hq with hq | hq | hq <;> simp [hq]
  · rintro r T' ⟨hg, A', rfl, hA'⟩
    refine ⟨R ++ (A' ++ B), ?_, hg, _, rfl, A', B, rfl, hA', hB⟩
    intro q hq
    simp only [List.mem_append] at hq ⊢
    rcases hq with hq | hq | hq <;> simp [hq]
theorem SpecT.post (S : SpecT prog w K p loose mean mg mb dd uu f vs R Post) (k : ∀ v T, Post v T → Post' v T) : SpecT prog w K p loose mean mg mb dd uu f vs R Post' :=
  S.conv (fun _ h => h) fun r T' h => ⟨T', fun _ h => h, k r T' h⟩
theorem SpecT.room (S : SpecT prog w K p loose mean mg mb dd uu f vs R Post) (h1 : dd ≤ dd') (h2 : uu ≤ uu') : SpecT prog w K p loose mean mg mb dd' uu' f vs R Post := by
  intro dp un gd cn cs a ccd cl outer A₀ base h₀ L m s Q E B F X N Tp hk hd hu hret
  exact S dp un gd cn cs a ccd cl outer A₀ base h₀ L m s Q E B F X N Tp hk (by omega) (by omega) hret
end
end Mine
end
section
open PySem PySem.W PyProof.Rows PySem.Calls
set_option maxRecDepth 100000
set_option exponentiation.threshold 6000
namespace Mine
noncomputable def digs (n : Nat) : Nat → Int → List Int
  | 0, _ => []
  | k + 1, x => x % 2 ^ n :: digs n k (x / 2 ^ n)
theorem digs_len (n : Nat) : ∀ (k : Nat) (x : Int), (digs n k x).length = k
  | 0, _ => rfl
  | k + 1, x => by rw [digs, List.length_cons, digs_len n k]
theorem emod_emod_pow {x : Int} {n m : Nat} (h : n ≤ m) : (x % 2 ^ m) % 2 ^ n = x % 2 ^ n := Int.emod_emod_of_dvd x ⟨2 ^ (m - n), by rw [← Int.pow_add]; congr 1; omega⟩
theorem div_pow_mod {x : Int} {n m : Nat} : (x % 2 ^ (n + m)) / 2 ^ n = (x / 2 ^ n) % 2 ^ m := by
  have h : (2 : Int) ^ (n + m) = 2 ^ n * 2 ^ m := Int.pow_add ..
  have hp : (0 : Int) < 2 ^ n := Int.pow_pos (by decide)
  rw [h]
  generalize hP : (2 : Int) ^ n = P at *
  generalize (2 : Int) ^ m = Q at *
  rw [Int.emod_def, Int.emod_def, ← Int.ediv_ediv_of_nonneg (Int.le_of_lt hp), show x - P * Q * (x / P / Q) = x + P * (-(Q * (x / P / Q))) from by rw [Int.mul_neg, Int.mul_assoc]; omega, Int.add_mul_ediv_left _ _ (Int.ne_of_gt hp)]
  omega
theorem digs_append (n : Nat) : ∀ (a b : Nat) (x : Int), digs n (a + b) x = digs n a (x % 2 ^ (n * a)) ++ digs n b (x / 2 ^ (n * a))
  | 0, b, x => by
    rw [Nat.zero_add, Nat.mul_zero, Int.pow_zero, Int.ediv_one]
    rfl
  | a + 1, b, x => by
    have e : a + 1 + b = (a + b) + 1 := by omega
    rw [e, digs, digs, digs_append n a b, List.cons_append]
    have h1 : (x % 2 ^ (n * (a + 1))) % 2 ^ n = x % 2 ^ n := emod_emod_pow (by rw [Nat.mul_succ]; omega)
    have h2 : (x % 2 ^ (n * (a + 1))) / 2 ^ n = (x / 2 ^ n) % 2 ^ (n * a) := by
      rw [show n * (a + 1) = n + n * a from by rw [Nat.mul_succ, Nat.add_comm]]
      exact div_pow_mod
    have h3 : x / 2 ^ n / 2 ^ (n * a) = x / 2 ^ (n * (a + 1)) := by
      rw [Int.ediv_ediv_of_nonneg (Int.pow_nonneg (by decide)), ← Int.pow_add]
      congr 2
      rw [Nat.mul_succ]; omega
    rw [h1, h2, h3]
theorem digs_one {n : Nat} {x : Int} (h0 : 0 ≤ x) (h1 : x < 2 ^ n) : digs n 1 x = [x] := by
  rw [digs, digs, Int.emod_eq_of_lt h0 h1]
theorem digs_rng {n : Nat} : ∀ (k : Nat) (x : Int), ∀ d ∈ digs n k x, 0 ≤ d ∧ d < 2 ^ n
  | 0, _, _, h => nomatch h
  | k + 1, x, d, h => by
    have hp : (0 : Int) < 2 ^ n := Int.pow_pos (by decide)
    rw [digs] at h
    rcases List.mem_cons.mp h with rfl | h
    · exact ⟨Int.emod_nonneg _ (Int.ne_of_gt hp), Int.emod_lt_of_pos _ hp⟩
    · exact digs_rng k _ d h
theorem and_high (x s : Nat) : x &&& (x / 2 ^ s * 2 ^ s) = x / 2 ^ s * 2 ^ s := by
  apply Nat.eq_of_testBit_eq
  intro i
  rw [Nat.testBit_and, ← Nat.shiftLeft_eq, ← Nat.shiftRight_eq_div_pow, Nat.testBit_shiftLeft, Nat.testBit_shiftRight]
  by_cases h : s ≤ i
  · have e : s + (i - s) = i := by omega
    rw [e]
    cases x.testBit i <;> simp
  · simp [h]
theorem xor_low {x : Int} {s : Nat} (h0 : 0 ≤ x) : Builtin.bitXor x (x / 2 ^ s * 2 ^ s) = x % 2 ^ s := by
  obtain ⟨a, rfl⟩ := Int.eq_ofNat_of_zero_le h0
  have e : ((a : Int) / 2 ^ s * 2 ^ s) = ((a / 2 ^ s * 2 ^ s : Nat) : Int) := by
    rw [Int.natCast_mul, Int.natCast_ediv, Int.natCast_pow]; rfl
  have hand : Builtin.bitAnd (a : Int) ((a : Int) / 2 ^ s * 2 ^ s) = (a : Int) / 2 ^ s * 2 ^ s := by
    rw [e]
    have h1 : decide (0 ≤ (a : Int)) = true := by simp
    have h2 : decide (0 ≤ ((a / 2 ^ s * 2 ^ s : Nat) : Int)) = true := decide_eq_true (Int.natCast_nonneg _)
    unfold Builtin.bitAnd
    rw [h1, h2]
    show (((a : Int).toNat &&& ((a / 2 ^ s * 2 ^ s : Nat) : Int).toNat : Nat) : Int) = _
    rw [Int.toNat_natCast, Int.toNat_natCast, and_high]
  rw [bitXor_and, hand]
  have := Int.mul_ediv_add_emod (a : Int) (2 ^ s)
  rw [Int.mul_comm] at this
  omega
theorem ints_rep0 (a : Int) (t : Tok) : ∀ k, IntsAre (List.replicate k (.int a t)) (List.replicate k a)
  | 0 => .nil
  | k + 1 => .cons a t (ints_rep0 a t k)
section
variable {prog : Program} {w : World} {A : Around} {E : Value → Shared → Prop} {s : Shared} {h₀ : Heap} {L D : Addr} {m : Str → Option Value} {news news' : Led} {n : Nat} {k : Int} {u : Tok} {v : Value} {vs : List Value}
theorem set_lK {Q : Unit → Shared → Prop} (F : Fr h₀ L s.heap m) (N : News h₀ L s.heap news) (U : Upd D (listOf vs.toArray n) (listOf (vs.set k.toNat v).toArray n) news news') (hk : 0 ≤ k ∧ k < vs.length ∧ vs.length < 1000000)
    (h : ∀ h', Fr h₀ L h' m → News h₀ L h' news' → Q () { s with heap := h' }) : wpAny (model prog w) A (setItem (.ref D) (.int k u) v) Q E s := by
  obtain ⟨pre, post, rfl, rfl, a, b⟩ := U.split
  have z := N (D, listOf vs.toArray n) (List.mem_append.mpr (.inr (.head _)))
  have hs : vs.toArray.size = vs.length := List.size_toArray ..
  refine ki_setAt z.1 hk.1 (by omega) (by omega) (h _ (F.change (Heap.SameBut.update ..) z.2.1 z.2.2) (ki_turn _ N a b ?_ ?_))
  · show vs.toArray.setIfInBounds k.toNat v = (vs.set k.toNat v).toArray
    simp
  · simp
theorem rep_K {l : Addr} {a : Int} {x : Int} {u t : Tok} {j : Nat} {Q : Value → Shared → Prop} (Fm : Fr h₀ L s.heap m) (N : News h₀ L s.heap news) (hl : (l, listOf #[.int a t] j) ∈ news) (hx : 0 ≤ x ∧ x < 1000000)
    (h : ∀ D h' vs0, Fr h₀ L h' m → News h₀ L h' ((D, listOf vs0.toArray 0) :: news) → (∀ p ∈ news, p.1 < D) → IntsAre vs0 (List.replicate x.toNat a) → vs0.length = x.toNat → Q (.ref D) { s with heap := h' }) : wpAny (model prog w) A (binaryOp .Mult (.ref l) (.int x u)) Q E s := by
  refine KM.mul (vs := [.int a t]) (ns := [a]) Fm N (PySem.IsL.isList (n := j) (N _ hl).1) (IntsAre.cons a t IntsAre.nil) (by omega) (by omega) (by simp only [List.length_cons, List.length_nil]; omega) fun D h' F' N' hl' _ _ _ _ _ _ => ?_
  rw [List.flatten_replicate_singleton] at N'
  exact h D h' _ F' N' hl' (ints_rep0 a t _) List.length_replicate
end
noncomputable def figs (n : Nat) (a : Int) : Nat := (Builtin.Int.intBits a + n - 1) / n
theorem figs_big {n : Nat} {a : Int} (hn : 0 < n) (h0 : 0 ≤ a) : a < 2 ^ (n * figs n a) := by
  have h1 : a.natAbs < 2 ^ Builtin.Int.intBits a := PySem.intBits_le_iff.mp (Nat.le_refl _)
  have h2 : Builtin.Int.intBits a ≤ n * figs n a := by
    unfold figs
    have := Nat.mod_add_div (Builtin.Int.intBits a + n - 1) n
    have := Nat.mod_lt (Builtin.Int.intBits a + n - 1) hn
    omega
  have h3 : a.natAbs < 2 ^ (n * figs n a) := Nat.lt_of_lt_of_le h1 (Nat.pow_le_pow_right (by decide) h2)
  have h4 : ((a.natAbs : Nat) : Int) < ((2 ^ (n * figs n a) : Nat) : Int) := Int.ofNat_lt.mpr h3
  rw [Int.natCast_pow] at h4
  have h5 : ((2 : Nat) : Int) = 2 := rfl
  rw [h5] at h4
  omega
end Mine
namespace Mine
theorem sh_nat {n : Int} {lo mid : Nat} (hn : 0 ≤ n) (h1 : lo ≤ mid) : (((mid : Int) - lo) * n).toNat = n.toNat * (mid - lo) := by
  have e1 : ((mid : Int) - lo) = ((mid - lo : Nat) : Int) := by omega
  have e2 : n = (n.toNat : Int) := by omega
  rw [e1, e2, ← Int.natCast_mul, Int.toNat_natCast, Nat.mul_comm, Int.toNat_natCast]
theorem lo_rng {x : Int} {k : Nat} : 0 ≤ x % 2 ^ k ∧ x % 2 ^ k < 2 ^ k :=
  ⟨Int.emod_nonneg _ (Int.ne_of_gt (Int.pow_pos (by decide))), Int.emod_lt_of_pos _ (Int.pow_pos (by decide))⟩
theorem hi_rng {x : Int} {n lo mid hi : Nat} (h1 : lo ≤ mid) (h2 : mid ≤ hi) (h : 0 ≤ x ∧ x < 2 ^ (n * (hi - lo))) : 0 ≤ x / 2 ^ (n * (mid - lo)) ∧ x / 2 ^ (n * (mid - lo)) < 2 ^ (n * (hi - mid)) := by
  refine ⟨Int.ediv_nonneg h.1 (Int.pow_nonneg (by decide)), Int.ediv_lt_of_lt_mul (Int.pow_pos (by decide)) ?_⟩
  rw [← Int.pow_add, ← Nat.mul_add, show hi - mid + (mid - lo) = hi - lo from by omega]
  exact h.2
theorem digs_join {x : Int} {n lo mid hi : Nat} (h1 : lo ≤ mid) (h2 : mid ≤ hi) : digs n (mid - lo) (x % 2 ^ (n * (mid - lo))) ++ digs n (hi - mid) (x / 2 ^ (n * (mid - lo))) = digs n (hi - lo) x := by
  rw [← digs_append, show mid - lo + (hi - mid) = hi - lo from by omega]
theorem put_join {vl ws1 ws2 : List Value} {lo mid hi : Nat} (h1 : lo ≤ mid) (h2 : mid ≤ hi) (h3 : hi ≤ vl.length) (hw : ws1.length = mid - lo) :
    (vl.take lo ++ ws1 ++ vl.drop mid).take mid ++ ws2 ++ (vl.take lo ++ ws1 ++ vl.drop mid).drop hi = vl.take lo ++ (ws1 ++ ws2) ++ vl.drop hi := by
  have e : (vl.take lo ++ ws1).length = mid := by rw [List.length_append, List.length_take, hw]; omega
  rw [List.take_append_of_le_length (by omega), List.take_of_length_le (by omega), List.drop_append, e, List.drop_drop, List.drop_of_length_le (by omega), List.nil_append, show mid + (hi - mid) = hi from by omega]
  simp only [List.append_assoc]
theorem put_len {vl ws : List Value} {lo hi : Nat} (h1 : lo ≤ hi) (h3 : hi ≤ vl.length) (hw : ws.length = hi - lo) : (vl.take lo ++ ws ++ vl.drop hi).length = vl.length := by
  rw [List.length_append, List.length_append, List.length_take, List.length_drop, hw]; omega
theorem put_one {vl : List Value} {lo : Nat} {v : Value} (h : lo < vl.length) : vl.set lo v = vl.take lo ++ [v] ++ vl.drop (lo + 1) := by
  rw [List.set_eq_take_append_cons_drop, if_pos h, List.append_assoc]; rfl
inductive Pull (d : Addr) (o : Obj) : Led → Led → Prop
  | head {r} : (∀ p ∈ r, p.1 ≠ d) → Pull d o ((d, o) :: r) r
  | tail {p r r'} : p.1 ≠ d → Pull d o r r' → Pull d o (p :: r) (p :: r')
theorem Pull.ne {d : Addr} {o : Obj} : ∀ {l r : Led}, Pull d o l r → ∀ p ∈ r, p.1 ≠ d
  | _, _, .head h => h
  | _, _, .tail h r => fun p hp => by
    rcases List.mem_cons.mp hp with rfl | hp
    · exact h
    · exact r.ne p hp
theorem Pull.sub {d : Addr} {o : Obj} : ∀ {l r : Led}, Pull d o l r → ∀ p ∈ (d, o) :: r, p ∈ l
  | _, _, .head h => fun p hp => hp
  | _, _, .tail h r => fun p hp => by
    rcases List.mem_cons.mp hp with rfl | hp
    · exact .tail _ (r.sub _ (.head _))
    · rcases List.mem_cons.mp hp with rfl | hp
      · exact .head _
      · exact .tail _ (r.sub _ (.tail _ hp))
theorem figs_fdiv {n a : Int} (hn : 0 < n) : ((Builtin.Int.intBits a : Int) + n - 1).fdiv n = figs n.toNat a := by
  unfold figs
  rw [Int.fdiv_eq_ediv_of_nonneg _ (by omega)]
  have e : (Builtin.Int.intBits a : Int) + n - 1 = ((Builtin.Int.intBits a + n.toNat - 1 : Nat) : Int) := by omega
  have e2 : n = (n.toNat : Int) := by omega
  rw [e]
  conv => lhs; rw [e2]
  exact (Int.natCast_ediv _ _).symm
theorem figs_small {n : Nat} {a : Int} {m : Nat} (hn : 0 < n) (h : a.natAbs < 2 ^ (n * m)) : figs n a ≤ m := by
  have h1 : Builtin.Int.intBits a ≤ n * m := PySem.intBits_le_iff.mpr h
  unfold figs
  rw [← Nat.lt_succ_iff, Nat.div_lt_iff_lt_mul hn, Nat.succ_mul, Nat.mul_comm m n]
  omega
end Mine
namespace Mine
theorem with_mem {h₀ h : Heap} {L d : Addr} {vs : List Value} {news : Led} {G : Prop} (_ : News h₀ L h news) (_ : (d, listOf vs.toArray 0) ∈ news) (k : ∀ d' vs', d' = d → vs' = vs → G) : G := k d vs rfl rfl
end Mine
namespace Mine
theorem with_upd {h₀ h : Heap} {L d : Addr} {o o' : Obj} {news news' : Led} {G : Prop} (N : News h₀ L h news) (U : Upd d o o' news news') (k : ∀ B R', B = news → (∀ p ∈ R', p.1 ≠ d) → (∀ q ∈ B, q.1 ≠ d → q ∈ R') → News h₀ L h ((d, o) :: R') → G) : G := by
  obtain ⟨pre, post, e1, _, h1, h2⟩ := U.split
  refine k news (pre ++ post) rfl (fun p hp => (List.mem_append.mp hp).elim (h1 p) (h2 p)) (fun q hq hn => ?_) (news_sub N fun q hq => ?_)
  · rw [e1] at hq
    rcases List.mem_append.mp hq with hq | hq
    · exact List.mem_append_left _ hq
    · rcases List.mem_cons.mp hq with rfl | hq
      · exact absurd rfl hn
      · exact List.mem_append_right _ hq
  · rw [e1]
    rcases List.mem_cons.mp hq with rfl | hq
    · exact List.mem_append_right _ (.head _)
    · rcases List.mem_append.mp hq with hq | hq
      · exact List.mem_append_left _ hq
      · exact List.mem_append_right _ (.tail _ hq)
end Mine
namespace Mine
theorem digs_small {x n : Int} {k lo hi : Nat} (hn : 0 < n ∧ n < 5000) (hx : 0 ≤ x ∧ x < 2 ^ (n.toNat * (hi - lo))) (h5 : hi - lo < 200) : Small (x / 2 ^ k) := by
  have h0 : 0 ≤ x / 2 ^ k := Int.ediv_nonneg hx.1 (Int.pow_nonneg (by decide))
  have h1 : x / 2 ^ k ≤ x := Int.ediv_le_self _ hx.1
  refine small_pow (k := n.toNat * (hi - lo)) ?_ ?_
  · have h2 : x.natAbs < 2 ^ (n.toNat * (hi - lo)) := by
      have h3 : ((x.natAbs : Nat) : Int) < ((2 ^ (n.toNat * (hi - lo)) : Nat) : Int) := by
        rw [Int.natCast_pow, Int.natAbs_of_nonneg hx.1]
        exact hx.2
      exact Int.ofNat_lt.mp h3
    omega
  · have h3 : n.toNat * (hi - lo) ≤ 5000 * 200 := Nat.mul_le_mul (by omega) (by omega)
    unfold big
    omega
end Mine
namespace Mine
theorem allLt_ltOf {d : Addr} {R : Led} (h : AllLt d R) : ∀ p ∈ R, p.1 < d := ktn_ltOf h
theorem allLt_neOf {d : Addr} {R : Led} (h : AllLt d R) : ∀ p ∈ R, p.1 ≠ d := fun p hp => Nat.ne_of_lt (ktn_ltOf h p hp)
theorem figs_zero {n : Nat} (hn : 0 < n) : figs n 0 = 0 := by
  unfold figs
  rw [show Builtin.Int.intBits 0 = 0 from rfl, Nat.zero_add]
  exact Nat.div_eq_of_lt (by omega)
theorem figs_pos {n : Nat} {a : Int} (hn : 0 < n) (ha : a ≠ 0) : 0 < figs n a := by
  unfold figs
  have h : 0 < Builtin.Int.intBits a := by
    unfold Builtin.Int.intBits
    rw [if_neg (by simpa using ha)]
    omega
  exact Nat.div_pos (by omega) hn
end Mine
namespace Mine
theorem allLt_le {d D : Addr} {R : Led} (h : AllLt d R) (hd : @LE.le Nat _ d D) : ∀ p ∈ R, p.1 < D := fun p hp => Nat.lt_of_lt_of_le (ktn_ltOf h p hp) hd
end Mine
namespace Mine
section
variable {prog : Program} {w : World} {K : Frag} {p : Program} {loose : List Str} {mean : ExcName → Option Value} {mg mb : Str → Option Value} {dd uu dd' uu' : Nat} {f : Addr} {vs : List Value} {R Tb : Led} {ds : List Int}
theorem SpecT.tabB {P P' : Addr} (hT : Tabs P P' Tb) (hC : Cl R) (hP : P ≠ P')
    (S : ∀ T R₀, (∀ q ∈ R, q ∈ R₀) → ((T = (P', tabObj #[]) :: R₀ ∧ ∀ p ∈ R₀, p.1 ≠ P') ∨ ∃ c0 oc0 vs0 t0, T = (P', tabObj #[rawInt 32, rawInt 4, .ref c0]) :: (c0, oc0) :: R₀ ∧ oc0.data = .fields vs0 ∧ vs0[1]? = some (.str (Str.ofString "_int2digits.<locals>.inner") t0)) →
      SpecT prog w K p loose mean mg mb dd uu f vs T (fun v T' => ∃ D vs A', v = .ref D ∧ IntsAre vs ds ∧ T' = A' ++ ((D, listOf vs.toArray 0) :: R₀) ∧ TabOk P' 32 4 (Str.ofString "_int2digits.<locals>.inner") A' ∧ ∀ q ∈ R₀, q.1 < D)) :
    SpecT prog w K p loose mean mg mb dd uu f vs (R ++ Tb) (fun v T' => ∃ D vs, v = .ref D ∧ IntsAre vs ds ∧ (∀ q ∈ R, q.1 < D) ∧ ∃ Tb', T' = (D, listOf vs.toArray 0) :: (R ++ Tb') ∧ Tabs P P' Tb') := by
  obtain ⟨A, B, rfl, hA, hB⟩ := hT
  refine SpecT.news (.inr fun ⟨h₀, L, h, N⟩ => ?_)
  refine (S (B ++ (A ++ R)) (A ++ R) (fun q hq => List.mem_append_right _ hq) (tab_in (news_sub N ?_) hB hA hP hC)).conv ?_ ?_
  · intro q hq
    simp only [List.mem_append] at hq ⊢
    rcases hq with hq | hq | hq <;> simp [hq]
  · intro q hq
    simp only [List.mem_append] at hq ⊢
    rcases hq with hq | hq | hq <;> simp [hq]
  · rintro r T' ⟨D, ws, B', rfl, hi, rfl, hB', hl⟩
    refine ⟨(D, listOf ws.toArray 0) :: (R ++ (A ++ B')), ?_, D, ws, rfl, hi, fun q hq => hl q (List.mem_append_right _ hq), _, rfl, A, B', rfl, hA, hB'⟩
    intro q hq
    simp only [List.mem_append, List.mem_cons] at hq ⊢
    rcases hq with hq | hq | hq | hq <;> simp [hq]
end
end Mine
namespace Mine
section
variable {prog : Program} {w : World} {A : Around} {E : Value → Shared → Prop} {s : Shared} {h₀ : Heap} {L : Addr} {m : Str → Option Value} {news : Led} {a b : Int} {t u : Tok}
theorem noPyl {b : Int} (hb : b.natAbs < 2 ^ 5000) : Builtin.divisionGoesByPylong a b = false := by
  refine PyProof.noPylong_of_log2 ?_
  by_cases h0 : b.natAbs = 0
  · rw [h0]; decide
  · have := (Nat.log2_lt h0).mpr hb
    omega
theorem divmod_K {Q : Value → Shared → Prop} (F : Fr h₀ L s.heap m) (N : News h₀ L s.heap news) (hb : 0 < b) (hs : b.natAbs < 2 ^ 5000)
    (h : ∀ D h' t1 t2 tk, Fr h₀ L h' m → News h₀ L h' ((D, tupObj [.int (a / b) t1, .int (a % b) t2]) :: news) → (∀ p ∈ news, p.1 < D) → Q (.ref D) { s with heap := h', toks := tk }) :
    wpAny (model prog w) A (call (.builtin "divmod") [.int a t, .int b u]) Q E s := by
  refine divmod_N F N (by omega) (fun h' F' N' => ?_) (.inl (noPyl hs))
  rw [Int.fdiv_eq_ediv_of_nonneg _ (by omega), Int.fmod_eq_emod_of_nonneg _ (by omega)] at N'
  exact h _ h' _ _ _ F' N' fun p hp => Heap.lt_size (N p hp).1
end
end Mine
end
section
open PySem PySem.W PyProof.Rows PySem.Calls
set_option maxRecDepth 100000
set_option exponentiation.threshold 6000
namespace Mine
theorem offI_of {I : Addr} {it : Obj} : ∀ {l : Led}, (∀ p ∈ l, p.1 ≠ I) → OffI I it l
  | [], _ => trivial
  | p :: r, h => ⟨.inl (h p (.head _)), offI_of fun q hq => h q (.tail _ hq)⟩
section
variable {prog : Program} {w : World} {A : Around} {E : Value → Shared → Prop} {s : Shared} {env : Env} {h₀ : Heap} {x : Str} {body : List Stmt} {Q : Flow → Shared → Prop}
theorem TurnJ.imp {L I : Addr} {it : Obj} {J J' : (Str → Option Value) → Led → Prop} {s₁ s₂ : Shared} {f : Flow} (h : TurnJ h₀ L I it J s₁ Q f s₂) (k : ∀ m led, (∀ p ∈ led, p.1 ≠ I) → J m led → J' m led) : TurnJ h₀ L I it J' s₁ Q f s₂ := by
  cases f with
  | ret v => exact h
  | brk => exact h
  | next => obtain ⟨h', tk, m', n', e, F, N, o, j⟩ := h; exact ⟨h', tk, m', n', e, F, N, o, k _ _ o j⟩
  | cont => obtain ⟨h', tk, m', n', e, F, N, o, j⟩ := h; exact ⟨h', tk, m', n', e, F, N, o, k _ _ o j⟩
theorem TurnJ.unr {L I : Addr} {it : Obj} {J : (Str → Option Value) → Led → Prop} {s₁ s₂ : Shared} {f : Flow} (h : TurnJ h₀ L I it J s₁ Q f s₂) : UnrPost h₀ L s₁ I it J Q f s₂ := by
  cases f <;> exact h
theorem iter_revJ {I l : Addr} {vs : List Value} {k : Nat} {m₀ : Str → Option Value} {news : Led} (J : List Value → (Str → Option Value) → Led → Prop)
    (hh : A.handled = none) (F : Fr h₀ env.locals s.heap m₀) (N : News h₀ env.locals s.heap ((I, revObj l ((vs.length : Int) - 1)) :: news)) (hI : ∀ p ∈ news, p.1 ≠ I) (hl : (l, listOf vs.toArray k) ∈ news)
    (hfix : ∀ r m led, J r m led → (l, listOf vs.toArray k) ∈ led) (hj : J vs.reverse m₀ news)
    (turn : ∀ v r m₁ news₁ h tk it, J (v :: r) m₁ news₁ → (∀ p ∈ news₁, p.1 ≠ I) → it.cls = .type "list_reverseiterator" → Fr h₀ env.locals h (fun y => if y = x then some v else m₁ y) → News h₀ env.locals h ((I, it) :: news₁) →
      wpAny (model prog w) A (execs body env) (TurnJ h₀ env.locals I it (J r) { s with heap := h, toks := tk } Q) E { s with heap := h, toks := tk })
    (done : ∀ m₁ news₁ h tk, J [] m₁ news₁ → Fr h₀ env.locals h m₁ → News h₀ env.locals h news₁ → Q .next { s with heap := h, toks := tk }) :
    wpAny (model prog w) A (pyIter (.ref I)) (fun it s₂ => LoopAtV prog w A h₀ env x body Q E it s₂) E s := by
  have key : ∀ (rest : List Value) (m : Str → Option Value) (led : Led), J rest m led → (∀ p ∈ led, p.1 ≠ I) → RevRest prog w A E h₀ env x body Q s I (l, listOf vs.toArray k) rest m led := by
    intro rest
    induction rest with
    | nil => intro m led hj _ h tk F' N'; exact done m led h tk hj F' N'
    | cons v r ih =>
      intro m led hj ho it h tk hic F' N'
      refine wpAny_mono (turn v r m led h tk it hj ho hic F' N') (fun f s₂ p => ?_) fun _ _ e => e
      exact (p.imp fun m' led' ho' hj' => ⟨hfix _ _ _ hj', ih m' led' hj' ho'⟩).unr
  exact iter_revUnr (lo := listOf vs.toArray k) hh F N (offI_of hI) hl rfl rfl (key _ _ _ hj hI)
end
theorem map_one {stored : List Str} {a : Str} {v : Value} {m m₀ : Str → Option Value} (hv : m a = some v) (h : ∀ y, stored.contains y = false → m y = m₀ y) :
    m = fun y => if y = a then some v else mapD stored m m₀ y := by
  funext y
  by_cases e : y = a
  · rw [if_pos e, e]; exact hv
  · rw [if_neg e]; exact congrFun (mapD_of h) y
noncomputable def ldiv (n : Nat) (y : Int) : List Int → List Int × Int
  | [] => ([], 0)
  | d :: r => (((ldiv n y r).2 * 2 ^ n + d) / y :: (ldiv n y r).1, ((ldiv n y r).2 * 2 ^ n + d) % y)
theorem ldiv_rem {n : Nat} {y : Int} (hy : 0 < y) : ∀ ds, 0 ≤ (ldiv n y ds).2 ∧ (ldiv n y ds).2 < y
  | [] => ⟨Int.le_refl _, hy⟩
  | _ :: _ => ⟨Int.emod_nonneg _ (Int.ne_of_gt hy), Int.emod_lt_of_pos _ hy⟩
theorem ldiv_len {n : Nat} {y : Int} : ∀ ds, (ldiv n y ds).1.length = ds.length
  | [] => rfl
  | _ :: r => by rw [ldiv, List.length_cons, List.length_cons, ldiv_len r]
theorem ldiv_rng {n : Nat} {y : Int} (hy : 0 < y) : ∀ ds, (∀ d ∈ ds, 0 ≤ d ∧ d < 2 ^ n) → ∀ q ∈ (ldiv n y ds).1, 0 ≤ q ∧ q < 2 ^ n
  | [], _, _, h => nomatch h
  | d :: r, hd, q, h => by
    rw [ldiv] at h
    have hr := ldiv_rem (n := n) hy r
    have h1 := hd d (.head _)
    rcases List.mem_cons.mp h with rfl | h
    · refine ⟨Int.ediv_nonneg ?_ (Int.le_of_lt hy), Int.ediv_lt_of_lt_mul hy ?_⟩
      · have := Int.mul_nonneg hr.1 (show (0 : Int) ≤ 2 ^ n from Int.pow_nonneg (by decide))
        omega
      · have h2 : ((ldiv n y r).2 + 1) * 2 ^ n ≤ y * 2 ^ n := Int.mul_le_mul_of_nonneg_right (by omega) (Int.pow_nonneg (by decide))
        rw [Int.add_mul, Int.one_mul, Int.mul_comm y] at h2
        omega
    · exact ldiv_rng hy r (fun x hx => hd x (.tail _ hx)) q h
theorem ldiv_val {n : Nat} {y : Int} (hy : 0 < y) : ∀ ds, dnum n (ldiv n y ds).1 = dnum n ds / y ∧ (ldiv n y ds).2 = dnum n ds % y
  | [] => ⟨(Int.zero_ediv _).symm, (Int.zero_emod _).symm⟩
  | d :: r => by
    obtain ⟨h1, h2⟩ := ldiv_val hy r
    have h3 := Int.mul_ediv_add_emod (dnum n r) y
    have e : d + 2 ^ n * dnum n r = ((dnum n r % y) * 2 ^ n + d) + y * (2 ^ n * (dnum n r / y)) := by
      conv => lhs; rw [← h3]
      rw [Int.mul_add, Int.mul_left_comm, Int.mul_comm (2 ^ n) (dnum n r % y)]
      omega
    rw [ldiv, dnum, dnum, h1, h2, e, Int.add_mul_ediv_left _ _ (Int.ne_of_gt hy), Int.add_mul_emod_self_left]
    exact ⟨rfl, rfl⟩
theorem dnum_digs {n : Nat} : ∀ (k : Nat) (x : Int), 0 ≤ x ∧ x < 2 ^ (n * k) → dnum n (digs n k x) = x
  | 0, x, h => by
    rw [Nat.mul_zero, Int.pow_zero] at h
    rw [digs, dnum]
    omega
  | k + 1, x, h => by
    have hp : (0 : Int) < 2 ^ n := Int.pow_pos (by decide)
    rw [digs, dnum, dnum_digs k (x / 2 ^ n) ⟨Int.ediv_nonneg h.1 (Int.le_of_lt hp), Int.ediv_lt_of_lt_mul hp (by rw [← Int.pow_add, show n * k + n = n * (k + 1) from by rw [Nat.mul_succ]]; exact h.2)⟩]
    have := Int.mul_ediv_add_emod x (2 ^ n)
    omega
theorem ints_rev {vs : List Value} {ds : List Int} (h : IntsAre vs ds) : IntsAre vs.reverse ds.reverse := by
  induction h with
  | nil => exact IntsAre.nil
  | cons d t _ ih => rw [List.reverse_cons, List.reverse_cons]; exact ih.append (IntsAre.cons d t IntsAre.nil)
end Mine
namespace Mine
theorem with_fr {h₀ h : Heap} {L : Addr} {m : Str → Option Value} {G : Prop} (F : Fr h₀ L h m) (k : ∀ m', m' = m → Fr h₀ L h m' → G) : G := k m rfl F
theorem with_obj {h₀ h : Heap} {L d : Addr} {news : Led} {G : Prop} (o : Obj) (_ : News h₀ L h news) (_ : (d, o) ∈ news) (k : ∀ d', d' = d → G) : G := k d rfl
end Mine
namespace Mine
theorem ints_snoc {a : List Value} {v : Value} {ds : List Int} (h : IntsAre (a ++ [v]) ds) : ∃ d t ds', v = .int d t ∧ ds = ds' ++ [d] ∧ IntsAre a ds' := by
  induction a generalizing ds with
  | nil =>
    cases h with
    | cons n t h => cases h; exact ⟨n, t, [], rfl, rfl, IntsAre.nil⟩
  | cons x a ih =>
    cases h with
    | cons n t h =>
      obtain ⟨d, t', ds', h1, h2, h3⟩ := ih h
      exact ⟨d, t', n :: ds', h1, by rw [h2]; rfl, IntsAre.cons n t h3⟩
theorem bits_lt {y : Int} (hy : 0 < y) : y < 2 ^ Builtin.Int.intBits y := by
  have h1 : y.natAbs < 2 ^ Builtin.Int.intBits y := PySem.intBits_le_iff.mp (Nat.le_refl _)
  have h4 : ((y.natAbs : Nat) : Int) < ((2 ^ Builtin.Int.intBits y : Nat) : Int) := Int.ofNat_lt.mpr h1
  rw [Int.natCast_pow] at h4
  have h5 : ((2 : Nat) : Int) = 2 := rfl
  rw [h5] at h4
  omega
theorem natAbs_lt_pow {x : Int} {k : Nat} (h0 : 0 ≤ x) (h : x < 2 ^ k) : x.natAbs < 2 ^ k := by
  have h3 : ((x.natAbs : Nat) : Int) < ((2 ^ k : Nat) : Int) := by
    rw [Int.natCast_pow, Int.natAbs_of_nonneg h0]
    exact h
  exact Int.ofNat_lt.mp h3
theorem step_bits {rv d : Int} {n : Nat} (hn : n ≤ 2000) (hr : 0 ≤ rv ∧ rv < 2 ^ n) (hd : 0 ≤ d ∧ d < 2 ^ n) : ((Builtin.Int.intBits (rv * 2 ^ n + d) : Nat) : Int) - n ≤ 4000 := by
  have h1 := Int.mul_nonneg hr.1 (show (0 : Int) ≤ 2 ^ n from Int.pow_nonneg (by decide))
  have h2 : (rv + 1) * 2 ^ n ≤ 2 ^ n * 2 ^ n := Int.mul_le_mul_of_nonneg_right (by omega) (Int.pow_nonneg (by decide))
  rw [Int.add_mul, Int.one_mul, ← Int.pow_add] at h2
  have h3 := PySem.intBits_le_iff.mpr (natAbs_lt_pow (x := rv * 2 ^ n + d) (k := n + n) (by omega) (by omega))
  omega
end Mine
namespace Mine
section
variable {prog : Program} {w : World} {A : Around} {E : Value → Shared → Prop} {s : Shared} {h₀ : Heap} {L D : Addr} {m : Str → Option Value} {news news' : Led} {n : Nat} {x : Value} {vs : List Value}
theorem append_lK {Q : Value → Shared → Prop} (F : Fr h₀ L s.heap m) (N : News h₀ L s.heap news) (U : Upd D (listOf vs.toArray n) (listOf (vs ++ [x]).toArray (n + 1)) news news') (hz : vs.length < 1000000)
    (h : ∀ h', Fr h₀ L h' m → News h₀ L h' news' → Q .none { s with heap := h' }) : wpAny (model prog w) A (call (.builtin "list.append") [.ref D, x]) Q E s := by
  have e : vs.toArray.push x = (vs ++ [x]).toArray := by simp
  refine append_K (its := vs.toArray) (n := n) F N (e ▸ U) h ?_
  rw [List.size_toArray, sizeLine_eq]
  omega
theorem reverse_lK {Q : Value → Shared → Prop} (F : Fr h₀ L s.heap m) (N : News h₀ L s.heap news) (U : Upd D (listOf vs.toArray n) (listOf vs.reverse.toArray n) news news') (hz : vs.length < 1000000)
    (h : ∀ h', Fr h₀ L h' m → News h₀ L h' news' → Q .none { s with heap := h' }) : wpAny (model prog w) A (call (.builtin "list.reverse") [.ref D]) Q E s := by
  refine kl_reverse (its := vs.toArray) F N rfl U ?_ h
  rw [sizeLine_eq]
  show vs.length ≤ _
  omega
end
end Mine
namespace Mine
theorem TurnJ.fin {h₀ h' : Heap} {L I : Addr} {it : Obj} {Jn : (Str → Option Value) → Led → Prop} {m' : Str → Option Value} {all : Led} {s₁ : Shared} {tk : Nat} {Q : Flow → Shared → Prop}
    (F : Fr h₀ L h' m') (N : News h₀ L h' all) (news' : Led) (sub : ∀ p ∈ (I, it) :: news', p ∈ all) (off : ∀ p ∈ news', p.1 ≠ I) (j : Jn m' news') : TurnJ h₀ L I it Jn s₁ Q .next { s₁ with heap := h', toks := tk } :=
  ⟨h', tk, m', news', rfl, F, fun p hp => N p (sub p hp), off, j⟩
end Mine
namespace Mine
theorem TurnJ.fin1 {h₀ h' : Heap} {L I : Addr} {it : Obj} {Jn : (Str → Option Value) → Led → Prop} {m' : Str → Option Value} {p0 : Addr × Obj} {news' : Led} {s₁ : Shared} {tk : Nat} {Q : Flow → Shared → Prop}
    (F : Fr h₀ L h' m') (N : News h₀ L h' (p0 :: (I, it) :: news')) (off : ∀ p ∈ news', p.1 ≠ I) (j : Jn m' news') : TurnJ h₀ L I it Jn s₁ Q .next { s₁ with heap := h', toks := tk } :=
  TurnJ.fin F N news' (fun _ hp => .tail _ hp) off j
theorem TurnJ.fin0 {h₀ h' : Heap} {L I : Addr} {it : Obj} {Jn : (Str → Option Value) → Led → Prop} {m' : Str → Option Value} {news' : Led} {s₁ : Shared} {tk : Nat} {Q : Flow → Shared → Prop}
    (F : Fr h₀ L h' m') (N : News h₀ L h' ((I, it) :: news')) (off : ∀ p ∈ news', p.1 ≠ I) (j : Jn m' news') : TurnJ h₀ L I it Jn s₁ Q .next { s₁ with heap := h', toks := tk } :=
  TurnJ.fin F N news' (fun _ hp => hp) off j
end Mine
namespace Mine
theorem news_hd {h₀ h : Heap} {L : Addr} {p : Addr × Obj} {T T2 : Led} (N : News h₀ L h (p :: T)) (k : ∀ q ∈ T2, q ∈ T) : News h₀ L h (p :: T2) := fun q hq => by
  rcases List.mem_cons.mp hq with rfl | hq
  · exact N _ (.head _)
  · exact N _ (.tail _ (k q hq))
end Mine
end
section
open PySem PySem.W PyProof.Rows PySem.Calls
open PyProof.Rows.LCg
set_option maxRecDepth 100000
namespace Mine
noncomputable def Blk (prog : Program) (w : World) (A : Around) (h₀ : Heap) (L : Addr) (m : Str → Option Value) (env : Env) (elt : Expr) (x : Str) (scope : Scope) (cl : List (Str × Addr)) (Fin : Shared → List Value → Led → Prop) (it : Value) (s₂ : Shared) : Prop :=
  ∃ (I : Addr) (fp : List Addr) (n : Nat) (P : Nat → Value → Prop) (St : Nat → Heap → Prop) (S : Led → Prop) (news : Led),
    it = .ref I ∧ Walks prog w A I fp [I] n P St ∧ n ≤ sizeLine ∧ (∀ i h, St i h → ∃ o, h.get? I = some o) ∧
    (∀ i h h' o nw, St i h → h.get? I = some o → h'.get? I = some o → (∀ b o, h₀.get? b = some o → h'.get? b = some o) → News h₀ L h' nw → S nw → St i h') ∧
    St 0 s₂.heap ∧ (∀ b ∈ fp, b < s₂.heap.objs.size) ∧ Fr h₀ L s₂.heap m ∧ News h₀ L s₂.heap news ∧ L ≠ I ∧ h₀.get? I = none ∧ (∀ p ∈ news, p.1 ≠ I) ∧ S news ∧
    CompRest prog w A h₀ L m env elt x scope cl s₂ S P (Fin s₂) n 0 [] news
section
variable {prog : Program} {w : World} {A : Around} {E : Value → Shared → Prop} {s : Shared} {h₀ : Heap} {L : Addr} {m : Str → Option Value} {env : Env}
theorem ListComp_W {elt iter : Expr} {x : Str} {px : Pos} {scope : Scope} {cl : List (Str × Addr)} {pos : Pos} {Q : Value → Shared → Prop} (_F₀ : Fr h₀ L s.heap m)
    (hclos : closureFor scope env = pure cl) (hcell : ∀ y ∈ scope.names, y.2 ≠ .cell) (hkind : scope.kind = .function)
    (hnames : ∀ y ∈ scope.names, y.2 = .local → scope.names.lookup y.1 = some .local) (hx : scope.names.lookup x = some .local)
    (h : wpAny (model prog w) A (eval iter env) (fun xv s₁ => wpAny (model prog w) A (pyIter xv) (Blk prog w A h₀ L m env elt x scope cl (fun s₂ => FinE h₀ L m s₂ Q)) E s₁) E s)
    (hs : ∀ x, foldedSetIterable iter env x = pure x := by intro _; rfl) :
    wpAny (model prog w) A (eval (.ListComp elt [⟨.Name x px, iter, [], 0⟩] scope pos) env) Q E s := by
  rw [eval_ListComp]
  refine wpAny_comprehension_free (use := none) rfl hs hclos hkind hnames (wpAny_mono h (fun xv s₁ h₁ => wpAny_mono h₁ (fun it s₂ h₂ => ?_) fun _ _ e => e) fun _ _ e => e)
  obtain ⟨I, fp, n, P, St, S, news, rfl, W, hsz, hIo, hSt, hst, hfp, F, N, hIL, hI₀, off, hS, R⟩ := h₂
  refine block_U W hsz hIo hSt hcell hkind hx hst hfp F N hIL hI₀ off hS R ?_
  intro D C h tk m' ys news' F' N' o1 hn hC₀ hD₀ hCL hDL hCD offC fin
  refine ⟨m', hn, fun h'' hs'' => fin D h'' tk (F'.change hs'' hCL hC₀) (fun p hp => ?_) o1⟩
  refine ⟨hs''.extBut _ _ ?_ (N' p hp).1, (N' p hp).2⟩
  rcases List.mem_cons.mp hp with rfl | hp
  · exact Ne.symm hCD
  · exact offC p hp
theorem Assign_ListComp_W {elt iter : Expr} {x y : Str} {px py : Pos} {scope : Scope} {cl : List (Str × Addr)} {pos spos : Pos} {Q : Flow → Shared → Prop} (_F₀ : Fr h₀ L s.heap m) (hLe : env.locals = L)
    (hsw : swapsWith (.ListComp elt [⟨.Name x px, iter, [], 0⟩] scope pos) (some (.Name y py)) spos.line env = pure true)
    (hclos : closureFor scope env = pure cl) (hcell : ∀ z ∈ scope.names, z.2 ≠ .cell) (hkind : scope.kind = .function)
    (hnames : ∀ z ∈ scope.names, z.2 = .local → scope.names.lookup z.1 = some .local) (hx : scope.names.lookup x = some .local)
    (hy : env.kindOf y = some .local) (hp : (env.scope.kind == .class || (env.scope.kind == .module && env.locals != env.globals)) = false)
    (h : wpAny (model prog w) A (eval iter env) (fun xv s₁ => wpAny (model prog w) A (pyIter xv) (Blk prog w A h₀ L m env elt x scope cl (fun s₂ => FinA h₀ L m s₂ y Q)) E s₁) E s)
    (hs : ∀ x, foldedSetIterable iter env x = pure x := by intro _; rfl) :
    wpAny (model prog w) A (exec (.Assign [.Name y py] (.ListComp elt [⟨.Name x px, iter, [], 0⟩] scope pos) spos) env) Q E s := by
  subst hLe
  rw [exec_Assign_Name_used _ _ _ _ hsw]
  refine wpAny_bind (wpAny_standAt (wpAny_bind ?_))
  show wpAny _ A (do let _ ← comprehension (.ListComp elt [⟨.Name x px, iter, [], 0⟩] scope pos) scope env _ (newList []) false (eval iter env) (some (assign (.Name y py) env))) _ _ s
  refine wpAny_bind (wpAny_mono (wpAny_comprehension_free (use := some (assign (.Name y py) env)) (Q := fun _ s' => Q .next s') rfl hs hclos hkind hnames
    (wpAny_mono h (fun xv s₁ h₁ => wpAny_mono h₁ (fun it s₂ h₂ => ?_) fun _ _ e => e) fun _ _ e => e)) (fun _ s' hq => wpAny_pure (wpAny_pure hq)) fun _ _ e => e)
  obtain ⟨I, fp, n, P, St, S, news, rfl, W, hsz, hIo, hSt, hst, hfp, F, N, hIL, hI₀, off, hS, R⟩ := h₂
  refine block_U W hsz hIo hSt hcell hkind hx hst hfp F N hIL hI₀ off hS R ?_
  intro D C h' tk m' ys news' F' N' o1 hn hC₀ hD₀ hCL hDL hCD offC fin
  show wpAny _ A (assign (.Name y py) env (.ref D)) _ _ _
  refine wpAny_assign_Name (wpAny_storeName_local hy F'.ns (fun h₂ hn₂ hs₂ => ?_) hp)
  have hL₀ : h₀.get? env.locals = none := Heap.get?_none_of_le F'.above
  have F₂ : Fr h₀ env.locals h₂ (fun z => if z = y then some (.ref D) else m z) := ⟨hn₂, fun b o e => hs₂.extBut b o (fun q => by rw [q, hL₀] at e; cases e) (F'.keep b o e), F'.above⟩
  refine ⟨m', hn.sameBut hs₂ hCL, fun h'' hs'' => fin D h'' _ (F₂.change hs'' hCL hC₀) (fun p hp => ?_) o1⟩
  have z : h₂.get? p.1 = some p.2 := hs₂.extBut _ _ (N' p hp).2.1 (N' p hp).1
  refine ⟨hs''.extBut _ _ ?_ z, (N' p hp).2⟩
  rcases List.mem_cons.mp hp with rfl | hp
  · exact Ne.symm hCD
  · exact offC p hp
theorem blk_list {elt : Expr} {x : Str} {scope : Scope} {cl : List (Str × Addr)} {Fin : Shared → List Value → Led → Prop} {l : Addr} {vs : List Value} {k : Nat} {news : Led}
    (hh : A.handled = none) (F : Fr h₀ L s.heap m) (N : News h₀ L s.heap news) (hl : (l, listOf vs.toArray k) ∈ news) (hsz : vs.length ≤ 1000000)
    (R : ∀ g : Heap, CompRest prog w A h₀ L m env elt x scope cl { s with heap := g } (fun led => (l, listOf vs.toArray k) ∈ led) (fun i v => vs[i]? = some v) (Fin { s with heap := g }) vs.length 0 [] news) :
    wpAny (model prog w) A (pyIter (.ref l)) (Blk prog w A h₀ L m env elt x scope cl Fin) E s := by
  have hls : s.heap.IsList l vs.toArray := PySem.IsL.isList (n := k) (N _ hl).1
  have hlt : l < s.heap.objs.size := Heap.lt_size (N _ hl).1
  refine wpAny_pyIter_list hls ?_
  have W : Walks prog w A s.heap.objs.size [s.heap.objs.size, l] [s.heap.objs.size] vs.length (fun i v => vs.toArray[i]? = some v) (fun i h => h.IsListIter s.heap.objs.size l i ∧ h.IsList l vs.toArray) := Walks.list (prog := prog) (w := w) hh s.heap.objs.size l (Nat.ne_of_lt hlt) vs.toArray
  refine ⟨s.heap.objs.size, _, vs.length, _, _, fun led => (l, listOf vs.toArray k) ∈ led, news, rfl, W, by rw [sizeLine_eq]; omega, fun i h st => by obtain ⟨o, e, _⟩ := st.1; exact ⟨o, e⟩, ?_, ⟨⟨_, Heap.get?_push_size _ rfl, rfl, rfl⟩, hls.push _⟩, ?_, F.push _, fun p hp => ⟨Heap.get?_push_of_some _ (N p hp).1, (N p hp).2⟩,
    Nat.ne_of_lt F.ns.lt, next_is_new F, fun p hp => Nat.ne_of_lt (Heap.lt_size (N p hp).1), hl, ?_⟩
  · intro i h h' o nw st e e' k' N' hS
    exact ⟨by obtain ⟨o', q, r⟩ := st.1; rw [e] at q; cases q; exact ⟨o, e', r⟩, PySem.IsL.isList (n := k) (N' _ hS).1⟩
  · intro b hb
    show b < (s.heap.push _).objs.size
    rw [Heap.size_push]
    rcases List.mem_cons.mp hb with rfl | hb
    · exact Nat.lt_succ_self _
    · rw [List.mem_singleton.mp hb]; exact Nat.lt_succ_of_lt hlt
  · have := R (s.heap.push { cls := .type "list_iterator", data := .fields #[.ref l, .int 0 0] })
    simpa using this
theorem blk_tuple {elt : Expr} {x : Str} {scope : Scope} {cl : List (Str × Addr)} {Fin : Shared → List Value → Led → Prop} {l : Addr} {vs : List Value} {news : Led}
    (hh : A.handled = none) (F : Fr h₀ L s.heap m) (N : News h₀ L s.heap news) (hl : (l, tupObj vs) ∈ news) (hsz : vs.length ≤ 1000000)
    (R : ∀ g : Heap, CompRest prog w A h₀ L m env elt x scope cl { s with heap := g } (fun led => (l, tupObj vs) ∈ led) (fun i v => vs[i]? = some v) (Fin { s with heap := g }) vs.length 0 [] news) :
    wpAny (model prog w) A (pyIter (.ref l)) (Blk prog w A h₀ L m env elt x scope cl Fin) E s := by
  have hls : s.heap.IsTuple l vs.toArray := ⟨_, (N _ hl).1, rfl, _, rfl⟩
  have hlt : l < s.heap.objs.size := Heap.lt_size (N _ hl).1
  refine wpAny_pyIter_tuple hls ?_
  have W : Walks prog w A s.heap.objs.size [s.heap.objs.size, l] [s.heap.objs.size] vs.length (fun i v => vs.toArray[i]? = some v) (fun i h => h.IsTupleIter s.heap.objs.size l i ∧ h.IsTuple l vs.toArray) := Walks.tuple (prog := prog) (w := w) hh s.heap.objs.size l (Nat.ne_of_lt hlt) vs.toArray
  refine ⟨s.heap.objs.size, _, vs.length, _, _, fun led => (l, tupObj vs) ∈ led, news, rfl, W, by rw [sizeLine_eq]; omega, fun i h st => by obtain ⟨o, e, _⟩ := st.1; exact ⟨o, e⟩, ?_, ⟨⟨_, Heap.get?_push_size _ rfl, rfl, rfl⟩, ⟨_, Heap.get?_push_of_some _ (N _ hl).1, rfl, _, rfl⟩⟩, ?_, F.push _, fun p hp => ⟨Heap.get?_push_of_some _ (N p hp).1, (N p hp).2⟩,
    Nat.ne_of_lt F.ns.lt, next_is_new F, fun p hp => Nat.ne_of_lt (Heap.lt_size (N p hp).1), hl, ?_⟩
  · intro i h h' o nw st e e' k' N' hS
    exact ⟨by obtain ⟨o', q, r⟩ := st.1; rw [e] at q; cases q; exact ⟨o, e', r⟩, ⟨_, (N' _ hS).1, rfl, _, rfl⟩⟩
  · intro b hb
    show b < (s.heap.push _).objs.size
    rw [Heap.size_push]
    rcases List.mem_cons.mp hb with rfl | hb
    · exact Nat.lt_succ_self _
    · rw [List.mem_singleton.mp hb]; exact Nat.lt_succ_of_lt hlt
  · have := R (s.heap.push { cls := .type "tuple_iterator", data := .fields #[.ref l, .int 0 0] })
    simpa using this
theorem blk_range {elt : Expr} {x : Str} {scope : Scope} {cl : List (Str × Addr)} {Fin : Shared → List Value → Led → Prop} {r : Addr} {a b : Int} {t u v : Tok} {n : Nat} {news : Led}
    (hh : A.handled = none) (F : Fr h₀ L s.heap m) (N : News h₀ L s.heap news) (hr : IsRange s.heap r a b 1 t u v) (hsm : Builtin.Range.small a b 1 = true) (hn : Builtin.Range.rangeSize a b 1 = ((n : Nat) : Int)) (hsz : n ≤ 1000000)
    (R : ∀ g : Heap, CompRest prog w A h₀ L m env elt x scope cl { s with heap := g } (fun _ => True) (fun i v => ∃ t, v = .int (a + (i : Int)) t) (Fin { s with heap := g }) n 0 [] news) :
    wpAny (model prog w) A (pyIter (.ref r)) (Blk prog w A h₀ L m env elt x scope cl Fin) E s := by
  refine wpAny_pyIter_range hr hsm ?_
  refine ⟨s.heap.objs.size, _, n, _, _, fun _ => True, news, rfl, range_walks hh a n, by rw [sizeLine_eq]; omega, fun i h st => ⟨_, st⟩, range_st, by show IsRangeIter _ _ _ _ _; rw [hn]; simpa using Heap.get?_push_size _ rfl, ?_, F.push _, fun p hp => ⟨Heap.get?_push_of_some _ (N p hp).1, (N p hp).2⟩,
    Nat.ne_of_lt F.ns.lt, next_is_new F, fun p hp => Nat.ne_of_lt (Heap.lt_size (N p hp).1), trivial, R _⟩
  intro b hb
  rw [List.mem_singleton.mp hb]
  show s.heap.objs.size < (s.heap.push _).objs.size
  rw [Heap.size_push]; exact Nat.lt_succ_self _
theorem comp_inv {elt : Expr} {x : Str} {scope : Scope} {cl : List (Str × Addr)} {S : Led → Prop} {P : Nat → Value → Prop} {Fin : List Value → Led → Prop} {n : Nat} {news : Led} (J : List Value → Led → Prop) (j0 : J [] news)
    (turn : ∀ i v ys led I oI C oC D m₂ h tk (E' : Value → Shared → Prop), i < n → P i v → ys.length = i → J ys led → NsObj oC m₂ → m₂ x = some v → Fr h₀ L h m → News h₀ L h ((I, oI) :: (C, oC) :: (D, lst ys) :: led) → (∀ p ∈ led, p.1 ≠ I ∧ p.1 ≠ C ∧ p.1 ≠ D) → ((@Ne Nat I C) ∧ (@Ne Nat I D) ∧ (@Ne Nat C D)) →
      wpAny (model prog w) A (eval elt (compEnvC scope cl C env)) (CompEnd h₀ L m { s with heap := h, toks := tk } I oI C oC D (lst ys) S (fun y news' => J (ys ++ [y]) news')) E' { s with heap := h, toks := tk })
    (fin : ∀ ys led, ys.length = n → J ys led → Fin ys led) : CompRest prog w A h₀ L m env elt x scope cl s S P Fin n 0 [] news := by
  have key : ∀ (j i : Nat) (ys : List Value) (led : Led), i + j = n → ys.length = i → J ys led → CompRest prog w A h₀ L m env elt x scope cl s S P Fin j i ys led := by
    intro j
    induction j with
    | zero =>
      intro i ys led hi hy hj
      exact CompRest.zero (fin ys led (by omega) hj)
    | succ j ih =>
      intro i ys led hi hy hj
      refine CompRest.succ ?_
      intro v I oI C oC D m₂ h tk E' hv hC hx F N off ne
      refine wpAny_mono (turn i v ys led I oI C oC D m₂ h tk E' (by omega) hv hy hj hC hx F N off.mem ne) (fun y s₂ hq => ?_) fun _ _ e => e
      obtain ⟨h', tk', nw, e, F', N', off', hS, hj'⟩ := hq
      exact ⟨h', tk', nw, e, F', N', off', hS, ih (i + 1) _ nw (by omega) (by rw [List.length_append, hy]; rfl) hj'⟩
  exact key n 0 [] news (by omega) rfl j0
theorem ints_take {ys : List Value} {y : Value} {g : Nat → Int} {i : Nat} {t : Tok} (h : IntsAre ys ((List.range i).map g)) (e : y = .int (g i) t) : IntsAre (ys ++ [y]) ((List.range (i + 1)).map g) := by
  rw [List.range_succ, List.map_append, e]
  exact h.append (.cons _ _ .nil)
theorem comp_ints {elt : Expr} {x : Str} {scope : Scope} {cl : List (Str × Addr)} {S : Led → Prop} {P : Nat → Value → Prop} {Fin : List Value → Led → Prop} {n : Nat} {news : Led} (g : Nat → Int)
    (turn : ∀ i v ys I oI C oC D m₂ h tk (E' : Value → Shared → Prop), i < n → P i v → NsObj oC m₂ → m₂ x = some v → Fr h₀ L h m → News h₀ L h ((I, oI) :: (C, oC) :: (D, lst ys) :: news) → (∀ p ∈ news, p.1 ≠ I ∧ p.1 ≠ C ∧ p.1 ≠ D) → ((@Ne Nat I C) ∧ (@Ne Nat I D) ∧ (@Ne Nat C D)) →
      wpAny (model prog w) A (eval elt (compEnvC scope cl C env)) (CompEnd h₀ L m { s with heap := h, toks := tk } I oI C oC D (lst ys) S (fun y news' => news' = news ∧ ∃ t, y = .int (g i) t)) E' { s with heap := h, toks := tk })
    (fin : ∀ ys, IntsAre ys ((List.range n).map g) → Fin ys news) : CompRest prog w A h₀ L m env elt x scope cl s S P Fin n 0 [] news := by
  refine comp_inv (J := fun ys led => led = news ∧ IntsAre ys ((List.range ys.length).map g)) ⟨rfl, .nil⟩ ?_ ?_
  · rintro i v ys led I oI C oC D m₂ h tk E' hi hv hy ⟨rfl, hj⟩ hC hx F N off ne
    refine wpAny_mono (turn i v ys I oI C oC D m₂ h tk E' hi hv hC hx F N off ne) (fun y s₂ hq => ?_) fun _ _ e => e
    obtain ⟨h', tk', nw, e, F', N', off', hS, rfl, t, hy'⟩ := hq
    refine ⟨h', tk', nw, e, F', N', off', hS, rfl, ?_⟩
    rw [List.length_append, show [y].length = 1 from rfl, hy]
    exact ints_take (hy ▸ hj) hy'
  · rintro ys led hy ⟨rfl, hj⟩
    exact fin ys (hy ▸ hj)
end
theorem CompEnd.fin {h₀ : Heap} {L I C D : Addr} {m : Str → Option Value} {s₁ : Shared} {oI oC oD : Obj} {S : Led → Prop} {rest : Value → Led → Prop} {y : Value} {h' : Heap} {tk : Nat} {all : Led}
    (F : Fr h₀ L h' m) (N : News h₀ L h' all) (news' : Led) (sub : ∀ p ∈ (I, oI) :: (C, oC) :: (D, oD) :: news', p ∈ all) (off : ∀ p ∈ news', p.1 ≠ I ∧ p.1 ≠ C ∧ p.1 ≠ D) (hS : S news') (r : rest y news') :
    CompEnd h₀ L m s₁ I oI C oC D oD S rest y { s₁ with heap := h', toks := tk } := CompEnd.intro F N news' sub (Off3.of off) hS r
theorem CompEnd.fin0 {h₀ : Heap} {L I C D : Addr} {m : Str → Option Value} {s₁ : Shared} {oI oC oD : Obj} {S : Led → Prop} {a b : Int} {t : Tok} {news' : Led} {h' : Heap} {tk : Nat}
    (F : Fr h₀ L h' m) (N : News h₀ L h' ((I, oI) :: (C, oC) :: (D, oD) :: news')) (off : ∀ p ∈ news', p.1 ≠ I ∧ p.1 ≠ C ∧ p.1 ≠ D) (hS : S news') (e : a = b) :
    CompEnd h₀ L m s₁ I oI C oC D oD S (fun y nw => nw = news' ∧ ∃ t, y = .int b t) (.int a t) { s₁ with heap := h', toks := tk } :=
  CompEnd.fin F N news' (fun _ h => h) off hS ⟨rfl, t, by rw [e]⟩
theorem off1_of {D : Addr} : ∀ {l : Led}, Off1 D l → ∀ p ∈ l, p.1 ≠ D
  | [], _ => fun _ h => nomatch h
  | _ :: _, h => fun p hp => by
    rcases List.mem_cons.mp hp with rfl | hp
    · exact h.1
    · exact off1_of h.2 p hp
end Mine
end
section
open PySem PySem.W PyProof.Rows PySem.Calls
open PyProof.Rows.LCg
set_option maxRecDepth 100000
namespace Mine
abbrev ZSt (z TI TO i1 i2 l1 l2 : Addr) (vs₁ vs₂ : List Value) (i : Nat) (h : Heap) : Prop :=
  IsZip h z TI TO .none ∧ IsPair h TI (.ref i1) (.ref i2) ∧ (∃ a b, IsPair h TO a b) ∧ h.IsListIter i1 l1 i ∧ h.IsListIter i2 l2 i ∧ h.IsList l1 vs₁.toArray ∧ h.IsList l2 vs₂.toArray
section
variable {prog : Program} {w : World} {A : Around} {E : Value → Shared → Prop} {s : Shared} {h₀ : Heap} {L : Addr} {m : Str → Option Value} {news : Led}
noncomputable def BlkZ (prog : Program) (w : World) (A : Around) (E : Value → Shared → Prop) (Q : Value → Shared → Prop) (env : Env) (elt iter : Expr) (a b : Str) (pa pb tp : Pos) (kk : Nat) (scope : Scope) (cl : List (Str × Addr)) (pos : Pos) (it : Value) (s₂ : Shared) : Prop :=
  wpAny (model prog w) A (newList []) (fun acc s₃ => wpAny (model prog w) A (newFunctionEnv scope env.globals cl [] env.qual none .none (some env)) (fun cenv s₄ =>
      codeAny (model prog w) A (.compStart (.ListComp elt [⟨.Tuple [.Name a pa, .Name b pb] kk tp, iter, [], 0⟩] scope pos) 0 it acc { cenv with scope := relabel scope env }) (compPost (model prog w) A E none Q acc cenv.locals) s₄) E s₃) E s₂
end
end Mine
end
section
open PySem PySem.W PyProof.Rows PySem.Calls
set_option maxRecDepth 100000
namespace Mine
abbrev half : UInt64 := 4602678819172646912
noncomputable def fint (x : UInt64) : Int := Flt.toInt Float64.truncOf x
noncomputable def rnd (x : UInt64) : Int := fint (Float64.add x 4602678819172646912)
theorem fin_nan {x : UInt64} (h : Float64.isFinite x = true) : Float64.isNaN x = false := by
  unfold Float64.isFinite at h; unfold Float64.isNaN
  cases hd : Float64.decode x <;> simp_all
theorem fin_inf {x : UInt64} (h : Float64.isFinite x = true) : Float64.isInf x = false := by
  unfold Float64.isFinite at h; unfold Float64.isInf
  cases hd : Float64.decode x <;> simp_all
section
variable {prog : Program} {w : World} {A : Around} {E : Value → Shared → Prop} {s : Shared} {h₀ : Heap} {L l : Addr} {m : Str → Option Value} {news : Led} {t u : Tok}
theorem intF_K {x : UInt64} {Q : Value → Shared → Prop} (hh : A.handled = none) (hf : Float64.isFinite x = true) (h : Q (.int (fint x) s.toks) { s with toks := s.toks + 1 }) :
    wpAny (model prog w) A (call (.type "int") [.float x t]) Q E s :=
  PySem.Flt.call_int_float3 hh (fun e => absurd e (by rw [fin_nan hf]; decide)) (fun e => absurd e (by rw [fin_inf hf]; decide)) (fun _ => h)
theorem divif_K {n : Int} {a : UInt64} {Q : Value → Shared → Prop} (hn : -1000000000 < n ∧ n < 1000000000) (ha : Float64.isZero a = false) (h : Q (.float (Float64.div (Float64.ofInt n) a) s.toks) { s with toks := s.toks + 1 }) :
    wpAny (model prog w) A (binaryOp .Div (.int n t) (.float a u)) Q E s :=
  AutoFloatOps.truediv_if_2 (Float64.ofInt_fits (Nat.lt_of_lt_of_le (m := 2 ^ 30) (by omega) (Nat.pow_le_pow_right (by decide) (by decide)))) (by rw [ha]; decide) h
theorem mulfi_K {n : Int} {a : UInt64} {Q : Value → Shared → Prop} (hn : -1000000000 < n ∧ n < 1000000000) (h : Q (.float (Float64.mul a (Float64.ofInt n)) s.toks) { s with toks := s.toks + 1 }) :
    wpAny (model prog w) A (binaryOp .Mult (.float a t) (.int n u)) Q E s :=
  mul_fi_fits (Nat.lt_of_lt_of_le (m := 2 ^ 30) (by omega) (Nat.pow_le_pow_right (by decide) (by decide))) h
theorem item_lK {value slice : Expr} {vs : List Value} {k : Nat} {i : Int} {v : Value} {Q : Value → Shared → Prop} (N : News h₀ L s.heap news) (hl : (l, listOf vs.toArray k) ∈ news) (hi : 0 ≤ i ∧ i < 1000000) (hv : vs[i.toNat]? = some v) (h : Q v s)
    (hs : subscripted slice false (.ref l) (.int i u) = operate [.ref l, .int i u] (getItem (.ref l) (.int i u)) := by with_unfolding_all rfl) :
    wpAny (model prog w) A (subscriptTail value slice (.ref l) (.int i u)) Q E s := by
  have hls : s.heap.IsList l vs.toArray := PySem.IsL.isList (n := k) (N _ hl).1
  exact tail_any hls.typeIs slot_list_getitem.lookup (wpAny_getItem_list hls hi.1 (by omega) (by simpa using hv) h) hs
theorem pick_from {vs : List Value} {a : Nat} (h : a ≤ vs.length) : (slicePick vs.toArray (some (a : Int)) none none).toList = vs.drop a := by
  rw [slicePick_from _ _ (by simpa using h)]
end
end Mine
end
section
open PySem PySem.W PyProof.Rows PySem.Calls
set_option maxRecDepth 100000
set_option exponentiation.threshold 6000
namespace Mine
theorem pow_le {a b : Nat} (h : a ≤ b) : (2 : Int) ^ a ≤ 2 ^ b := by
  have h1 := Nat.pow_le_pow_right (n := 2) (by decide) h
  have h2 : ((2 ^ a : Nat) : Int) ≤ ((2 ^ b : Nat) : Int) := Int.ofNat_le.mpr h1
  rwa [Int.natCast_pow, Int.natCast_pow] at h2
theorem pow_pos2 {a : Nat} : (0 : Int) < 2 ^ a := Int.pow_pos (by decide)
theorem pow1_pos {a : Nat} (h : 1 ≤ a) : (0 : Int) < 2 ^ a - 1 := by
  have := pow_le h
  omega
theorem pow1_abs {a k : Nat} (h : a ≤ k) : ((2 : Int) ^ a - 1).natAbs < 2 ^ k := by
  have h1 := pow_le h
  have h2 := pow_pos2 (a := a)
  have h3 : ((2 ^ k : Nat) : Int) = 2 ^ k := by rw [Int.natCast_pow]; rfl
  omega
theorem abs_lt {x : Int} {k : Nat} (h : 0 ≤ x ∧ x < 2 ^ k) : x.natAbs < 2 ^ k := natAbs_lt_pow h.1 h.2
theorem bits_pow1 {a : Nat} (h : 1 ≤ a) : Builtin.Int.intBits (2 ^ a - 1) = a := by
  refine Nat.le_antisymm (PySem.intBits_le_iff.mpr (pow1_abs (Nat.le_refl _))) ?_
  refine Nat.le_of_not_lt fun hlt => ?_
  have h1 := PySem.intBits_le_iff.mp (Nat.le_sub_one_of_lt hlt)
  have h2 := pow_le (show a - 1 ≤ a - 1 from Nat.le_refl _)
  have h3 : (2 : Int) ^ a = 2 * 2 ^ (a - 1) := by
    conv => lhs; rw [show a = (a - 1) + 1 from by omega]
    rw [Int.pow_succ]; omega
  have h4 : ((2 ^ (a - 1) : Nat) : Int) = 2 ^ (a - 1) := by rw [Int.natCast_pow]; rfl
  have h5 := pow_pos2 (a := a - 1)
  omega
theorem digs_zero (n : Nat) : ∀ j, digs n j 0 = List.replicate j 0
  | 0 => rfl
  | j + 1 => by rw [digs, Int.zero_ediv, digs_zero n j, Int.zero_emod, List.replicate_succ]
theorem digs_pad {n k j : Nat} {a : Int} (h : 0 ≤ a ∧ a < 2 ^ (n * k)) : digs n k a ++ List.replicate j 0 = digs n (k + j) a := by
  rw [digs_append, Int.emod_eq_of_lt h.1 h.2, Int.ediv_eq_zero_of_lt h.1 h.2, digs_zero]
theorem digs_figs {n j : Nat} {a : Int} (hn : 0 < n) (h0 : 0 ≤ a) (h : a < 2 ^ (n * j)) : figs n a ≤ j ∧ digs n (figs n a) a ++ List.replicate (j - figs n a) 0 = digs n j a := by
  have h1 : figs n a ≤ j := figs_small hn (natAbs_lt_pow h0 h)
  refine ⟨h1, ?_⟩
  rw [digs_pad ⟨h0, figs_big hn h0⟩, Nat.add_sub_cancel' h1]
theorem rem_pow1 {x : Int} {a : Nat} (h : 1 ≤ a) : 0 ≤ x % (2 ^ a - 1) ∧ x % (2 ^ a - 1) < 2 ^ a := by
  have h1 := pow1_pos h
  have h2 := Int.emod_nonneg x (Int.ne_of_gt h1)
  have h3 := Int.emod_lt_of_pos x h1
  omega
theorem len_figs {n : Nat} {a : Int} : (digs n (figs n a) a).length = figs n a := digs_len _ _ _
end Mine
namespace Mine
section
variable {prog : Program} {w : World} {A : Around} {E : Value → Shared → Prop} {s : Shared} {h₀ : Heap} {L l b : Addr} {m : Str → Option Value} {news : Led} {vs ws : List Value} {k j : Nat}
theorem cat_K {Q : Value → Shared → Prop} (F : Fr h₀ L s.heap m) (N : News h₀ L s.heap news) (hl : (l, listOf vs.toArray k) ∈ news) (hb : (b, listOf ws.toArray j) ∈ news) (hz : vs.length + ws.length < 1000000)
    (h : ∀ D h', Fr h₀ L h' m → News h₀ L h' ((D, listOf (vs ++ ws).toArray 0) :: news) → (∀ p ∈ news, p.1 < D) → Q (.ref D) { s with heap := h' }) : wpAny (model prog w) A (binaryOp .Add (.ref l) (.ref b)) Q E s :=
  add_lists (hsz := by rw [sizeLine_eq]; omega) F N (PySem.IsL.isList (n := k) (N _ hl).1) (PySem.IsL.isList (n := j) (N _ hb).1) fun h' F' N' => h _ h' F' N' fun p hp => Heap.lt_size (N p hp).1
end
end Mine
end
section
open PySem PySem.W PyProof.Rows PySem.Calls
set_option maxRecDepth 100000
namespace Mine
noncomputable def TurnZ (h₀ : Heap) (L : Addr) (Z news₁ : Led) (Jn : (Str → Option Value) → Led → Prop) (s₁ : Shared) (Q : Flow → Shared → Prop) (f : Flow) (s₂ : Shared) : Prop :=
  match f with
  | .ret v => Q (.ret v) s₂
  | .brk => Q .next s₂
  | _ => ∃ h' tk m' news', s₂ = { s₁ with heap := h', toks := tk } ∧ Fr h₀ L h' m' ∧ News h₀ L h' (news' ++ Z) ∧ news'.map (·.1) = news₁.map (·.1) ∧ Jn m' news'
section
variable {prog : Program} {w : World} {A : Around} {E : Value → Shared → Prop} {s : Shared} {env : Env} {h₀ : Heap} {xi xc : Str} {body : List Stmt} {Q : Flow → Shared → Prop}
end
end Mine
namespace Mine
section
variable {h₀ h' : Heap} {L d : Addr} {o o₁ : Obj} {p1 p2 : Addr × Obj} {R Z W : Led} {Jn : (Str → Option Value) → Led → Prop} {m' : Str → Option Value} {s₁ : Shared} {tk : Nat} {Q : Flow → Shared → Prop}
end
end Mine
end
section
open PySem PySem.W PyProof.Rows PySem.Calls
set_option maxRecDepth 100000
namespace Mine
local macro_rules | `(tactic| walk_at "none") => `(tactic| fail)
abbrev byteAt (b : Array UInt8) (i : Nat) (v : Value) : Prop := ∃ c u, b[i]? = some c ∧ v = .int (c.toNat : Int) u
section
variable {prog : Program} {w : World} {A : Around} {E : Value → Shared → Prop} {s : Shared}
theorem extend_bytes {R : Result → Shared → Prop} (hh : A.handled = none) (x : Array UInt8) (t : Tok) (S : Addr) (res : Value) (c₀ : Nat) (hS : s.heap.get? S = some { cls := .type "list", data := .seq #[] c₀ })
    (hR : ∀ h' tk acc' c', (∀ b o, b ≠ S → s.heap.get? b = some o → h'.get? b = some o) → h'.get? S = some { cls := .type "list", dict := none, data := .seq acc' c', slots := #[] } →
      ItemsOf (byteAt x) acc' x.size → R (.ok (.ret res)) { s with heap := h', toks := tk }) (hn : x.size ≤ sizeLine) :
    wpAny (model prog w) A.in1 (Builtin.List.listExtendWith (.ref S) (.bytes x t) res)
      (fun fin s' => match fin with | .done f => R (.ok f) s' | .again c' => c'.quiet = true ∧ codeAny (model prog w) A c' R s') (fun e s' => R (.error e) s') s := by
  have hSI : S ≠ s.heap.objs.size := Nat.ne_of_lt (Heap.lt_size hS)
  have hSf : S ∉ [s.heap.objs.size] := fun hm => hSI (List.mem_singleton.mp hm)
  unfold Builtin.List.listExtendWith
  refine wpAny_bind (wpAny_typeOf (T := "bytes") (typeIs_bytes s x t) ?_)
  have h1 : Builtin.List.listSameRef (.ref S) (.bytes x t) = false := rfl
  have h2 : (Value.type "bytes" == Value.type "list") = false := by decide
  have h3 : (Value.type "bytes" == Value.type "tuple") = false := by decide
  simp only [h1, h2, h3, Bool.or_false, Bool.false_eq_true, if_false]
  refine wpAny_bind (PySem.W.KBw.pyIter_bytes ?_)
  refine wpAny_bind (wpAny_holding ?_)
  unfold Builtin.List.listLengthHint
  refine wpAny_bind (wpAny_specialOf (T := "bytes") (v := .bytes x t) (typeIs_bytes _ x t) PySem.W.FB.slot_bytes_len.lookup ?_)
  wp_delta
  refine wpAny_bind (wpAny_isInstance (T := "bytes") (v := .bytes x t) (b := true) (typeIs_bytes _ x t) (by rw [isSubtype_type]; kernel_rfl) ?_)
  show wpAny _ _ (typeOf (Value.bytes x t) >>= _) _ _ _
  refine wpAny_bind (wpAny_typeOf (T := "bytes") (v := .bytes x t) (typeIs_bytes _ x t) ?_)
  refine wpAny_pure ?_
  rw [if_neg (by decide)]
  have W := PySem.W.KBw.walks (prog := prog) (w := w) (A := A.in1) hh s.heap.objs.size x t
  refine wpAny_pure ⟨plainId_quiet F.plain_extend_loop _, codeAny_extend_loopS W.toS hn S hSf res x.size 0 _ #[] c₀ rfl (Nat.zero_le _) ⟨_, Heap.get?_push_size _ rfl, rfl, rfl⟩ (Heap.get?_push_of_some _ hS) (ItemsOf.nil _) fun s' acc' c' hm hS' hacc => ?_⟩
  rw [Moved.eq_with hm]
  refine hR s'.heap s'.toks acc' c' (fun b ob hb e => hm.heap b ob (fun hmem => ?_) (Heap.get?_push_of_some _ e)) hS' hacc
  rcases List.mem_cons.mp hmem with e' | hmem
  · exact hb e'
  · exact absurd (Heap.lt_size e) (by rw [List.mem_singleton.mp hmem]; exact Nat.lt_irrefl _)
theorem list_init_bytes {R : Result → Shared → Prop} (hh : A.handled = none) (x : Array UInt8) (t : Tok) (S : Addr) (hS : s.heap.get? S = some { cls := .type "list", data := .seq #[] })
    (hR : ∀ h' tk acc' c', (∀ b o, b ≠ S → s.heap.get? b = some o → h'.get? b = some o) → h'.get? S = some { cls := .type "list", dict := none, data := .seq acc' c', slots := #[] } →
      ItemsOf (byteAt x) acc' x.size → R (.ok (.ret .none)) { s with heap := h', toks := tk }) (hn : x.size ≤ sizeLine) :
    wpAny (model prog w) A.in1 (Builtin.«list.__init__» ⟨[.ref S, .bytes x t], []⟩)
      (fun fin s' => match fin with | .done f => R (.ok f) s' | .again c' => c'.quiet = true ∧ codeAny (model prog w) A c' R s') (fun e s' => R (.error e) s') s := by
  show wpAny _ _ (do let old ← Builtin.List.listItems (.ref S); Builtin.List.listUpdate (.ref S) (fun _ => #[]); letGo old.toList.reverse; Builtin.List.listExtendWith (.ref S) (.bytes x t) .none) _ _ s
  refine wpAny_bind ?_
  unfold Builtin.List.listItems
  refine wpAny_bind (wpAny_seqItems hS rfl (wpAny_pure ?_))
  show wpAny _ _ (updateSeq S (fun _ => #[]) >>= fun _ => letGo (#[] : Array Value).toList.reverse >>= fun _ => Builtin.List.listExtendWith (.ref S) (.bytes x t) .none) _ _ s
  refine wpAny_bind (wpAny_updateSeq hS rfl ?_)
  have hS₂ := Heap.get?_update_self (Obj.mapSeq (fun _ => (#[] : Array Value))) hS rfl
  refine wpAny_bind (wpAny_letGo ?_)
  refine extend_bytes hh x t S .none _ hS₂ (fun h' tk acc' c' hk hS' hacc => ?_) hn
  exact hR h' tk acc' c' (fun b o hb e => hk b o hb ((Heap.get?_update_other _ _ (Ne.symm hb)).trans e)) hS' hacc
theorem items_ints {x : Array UInt8} {acc : Array Value} (h : ItemsOf (byteAt x) acc x.size) : IntsAre acc.toList (PySem.W.KBw.bInts x) := by
  have key : ∀ (l : List UInt8) (vs : List Value), vs.length = l.length → (∀ (i : Nat) (v : Value), vs[i]? = some v → ∃ (c : UInt8) (u : Tok), l[i]? = some c ∧ v = Value.int (c.toNat : Int) u) → IntsAre vs (l.map fun c => (c.toNat : Int)) := by
    intro l
    induction l with
    | nil => intro vs hl _; rw [List.length_eq_zero_iff.mp hl]; exact .nil
    | cons c l ih =>
      intro vs hl hv
      cases vs with
      | nil => cases hl
      | cons v vs =>
        obtain ⟨c', u, hc, rfl⟩ := hv 0 v rfl
        simp only [List.getElem?_cons_zero, Option.some.injEq] at hc
        subst hc
        exact .cons _ u (ih vs (by simpa using hl) fun i v' h' => hv (i + 1) v' (by simpa using h'))
  refine key x.toList acc.toList (by rw [Array.length_toList, Array.length_toList]; exact h.1) fun i v hv => ?_
  obtain ⟨c, u, hc, e⟩ := h.2 i v (by rw [← hv, Array.getElem?_toList])
  exact ⟨c, u, by rw [← hc, Array.getElem?_toList], e⟩
theorem list_bytes {h₀ : Heap} {L : Addr} {m : Str → Option Value} {news : Led} {Q : Value → Shared → Prop} {x : Array UInt8} {t : Tok} (hh : A.handled = none) (F : Fr h₀ L s.heap m) (N : News h₀ L s.heap news) (hn : x.size ≤ 1000000)
    (h : ∀ D us c h' tk, Fr h₀ L h' m → News h₀ L h' ((D, listOf (List.toArray us) c) :: news) → (∀ p ∈ news, p.1 < D) → IntsAre us (PySem.W.KBw.bInts x) → Q (.ref D) { s with heap := h', toks := tk }) :
    wpAny (model prog w) A (call (.type "list") [.bytes x t]) Q E s := by
  refine callType_codes (Q₁ := fun obj s₁ => obj = .ref s.heap.objs.size ∧ s₁ = { s with heap := s.heap.push { cls := .type "list", data := .seq #[] } }) PySem.F.called_list (PySem.F.typeCall_list_1 _) PySem.F.entry_list_init
    (code_list_new _ ⟨rfl, rfl⟩) fun obj s₁ h₁ => ?_
  obtain ⟨rfl, rfl⟩ := h₁
  have hS : (s.heap.push { cls := .type "list", data := .seq #[] }).get? s.heap.objs.size = some { cls := .type "list", data := .seq #[] } := Heap.get?_push_size _ rfl
  refine ⟨⟨_, hS, rfl⟩, PySem.F.args_list_init_2 _ _, list_init_bytes (A := A.in1) hh x t _ hS (fun h' tk acc' c' hk hS' hacc => ?_) (by rw [sizeLine_eq]; omega)⟩
  have hk' : ∀ b o, s.heap.get? b = some o → h'.get? b = some o := fun b o e => hk b o (Nat.ne_of_lt (Heap.lt_size e)) (Heap.get?_push_of_some _ e)
  refine ⟨rfl, h _ acc'.toList c' h' tk (F.keeps hk') (news_pushed F N hk' ?_ rfl) (fun p hp => Heap.lt_size (N p hp).1) (items_ints hacc)⟩
  rw [Array.toArray_toList]
  exact hS'
end
end Mine
namespace Mine
section
variable {prog : Program} {w : World} {A : Around} {E : Value → Shared → Prop} {s : Shared} {h₀ : Heap} {env : Env} {m : Str → Option Value}
theorem For_J {Q : Flow → Shared → Prop} {x : Str} {px pos : Pos} {iter : Expr} {body : List Stmt} (_F : Fr h₀ env.locals s.heap m) (hx : env.kindOf x = some .local)
    (hp : (env.scope.kind == .class || (env.scope.kind == .module && env.locals != env.globals)) = false)
    (h : wpAny (model prog w) A (eval iter env) (fun xv s₁ => wpAny (model prog w) A (pyIter xv) (fun it s₂ => LoopAtV prog w A h₀ env x body Q E it s₂) E s₁) E s)
    (hE : PassesOwn (model prog w) A env E)
    (hs : ∀ x, foldedSetIterable iter env x = pure x := by intro _; rfl) :
    wpAny (model prog w) A (exec (.For (.Name x px) iter body [] pos) env) Q E s := For_invV h₀ hx hp h hs hE
end
end Mine
namespace Mine
theorem name1 {h₀ h : Heap} {L d1 : Addr} {o1 : Obj} {T : Led} {G : Prop} (_ : News h₀ L h ((d1, o1) :: T)) (k : ∀ a, a = d1 → G) : G := k _ rfl
theorem name2 {h₀ h : Heap} {L d1 d2 : Addr} {o1 o2 : Obj} {T : Led} {G : Prop} (_ : News h₀ L h ((d1, o1) :: (d2, o2) :: T)) (k : ∀ a b, a = d1 → b = d2 → G) : G := k _ _ rfl rfl
theorem name4 {h₀ h : Heap} {L d1 d2 d3 d4 : Addr} {o1 o2 o3 o4 : Obj} {T : Led} {G : Prop} (_ : News h₀ L h ((d1, o1) :: (d2, o2) :: (d3, o3) :: (d4, o4) :: T)) (k : ∀ a b c d, a = d1 → b = d2 → c = d3 → d = d4 → G) : G := k _ _ _ _ rfl rfl rfl rfl
end Mine
end
section
open PySem PySem.W PyProof.Rows PySem.Calls
set_option maxRecDepth 100000
set_option exponentiation.threshold 6000
namespace Mine
theorem mul_lt2 {a b : Int} {k j : Nat} (ha : 0 ≤ a ∧ a < 2 ^ k) (hb : 0 ≤ b ∧ b < 2 ^ j) : 0 ≤ a * b ∧ a * b < 2 ^ (k + j) := by
  refine ⟨Int.mul_nonneg ha.1 hb.1, ?_⟩
  rw [Int.pow_add]
  have h1 : a * b ≤ a * 2 ^ j := Int.mul_le_mul_of_nonneg_left (by omega) ha.1
  have h2 : a * 2 ^ j < 2 ^ k * 2 ^ j := Int.mul_lt_mul_of_pos_right ha.2 pow_pos2
  omega
theorem small2 {a : Int} {k : Nat} (ha : 0 ≤ a ∧ a < 2 ^ k) (h : k ≤ 10000000) : Small a := small_pow (abs_lt ha) (by unfold big; exact h)
end Mine
namespace Mine
end Mine
namespace Mine
theorem prod_rng {a b : Int} {x y : Int} (ha : 0 ≤ a ∧ a ≤ x) (hb : 0 ≤ b ∧ b ≤ y) : 0 ≤ a * b ∧ a * b ≤ x * y :=
  ⟨Int.mul_nonneg ha.1 hb.1, Int.mul_le_mul ha.2 hb.2 hb.1 (by omega)⟩
end Mine
namespace Mine
section
variable {prog : Program} {w : World} {A : Around} {E : Value → Shared → Prop} {s : Shared} {h₀ : Heap} {L l : Addr} {m : Str → Option Value} {news : Led} {t u : Tok}
theorem slice_tmpK {value slice : Expr} {vs : List Value} {k a : Nat} {Q : Value → Shared → Prop} (F : Fr h₀ L s.heap m) (N : News h₀ L s.heap news) (hl : (l, listOf vs.toArray k) ∈ news) (ha : a ≤ vs.length) (hz : vs.length ≤ 1000000)
    (h : ∀ D h', Fr h₀ L h' m → News h₀ L h' ((D, listOf (vs.drop a).toArray 0) :: news) → (∀ p ∈ news, p.1 < D) → Q (.ref D) { s with heap := h' })
    (hs : subscripted slice false (.ref l) (.ref s.heap.objs.size) = operate [.ref s.heap.objs.size, .ref l] (getItem (.ref l) (.ref s.heap.objs.size))) :
    wpAny (model prog w) A (subscriptTail value slice (.ref l) (.ref s.heap.objs.size)) Q E { s with heap := s.heap.push { cls := .type "slice", data := .fields #[.int (a : Int) t, .none, .none] } } := by
  have hls : s.heap.IsList l vs.toArray := PySem.IsL.isList (n := k) (N _ hl).1
  refine tail_any (Heap.IsList.typeIs (s := { s with heap := s.heap.push { cls := .type "slice", data := .fields #[.int (a : Int) t, .none, .none] } }) (hls.push _)) list_getitem_lookup
    (wpAny_getItem_list_slice (hls.push _) (Heap.IsSliceOf.new ..) (IsPart.int _ _) IsPart.none .none (by simp) ?_ (by rw [List.size_toArray, sizeLine_eq]; omega)) hs
  have N1 := News.push (F.push { cls := .type "slice", data := .fields #[.int (a : Int) t, .none, .none] }) (N.grown fun _ _ e => Heap.get?_push_of_some _ e) { cls := .type "list", data := .seq (slicePick vs.toArray (some (a : Int)) none none) }
  have e : slicePick vs.toArray (some (a : Int)) none none = (vs.drop a).toArray := by rw [← pick_from ha, Array.toArray_toList]
  rw [e] at N1 ⊢
  rw [Heap.size_push] at N1
  refine h _ _ ((F.push _).push _) ?_ (fun p hp => ?_)
  · show News _ _ _ (((s.heap.push _).objs.size, _) :: _)
    rw [Heap.size_push]
    exact N1
  · show p.1 < (s.heap.push _).objs.size
    rw [Heap.size_push]
    exact Nat.lt_succ_of_lt (Heap.lt_size (N p hp).1)
end
end Mine
end
section
open PySem PySem.W PyProof.Rows PySem.Calls
set_option maxRecDepth 100000
namespace Mine
theorem bswIn_get (b : Array UInt8) (w : Nat) (acc : Array UInt8) (hs : acc.size = w) (hb : b.size = w) : ∀ (j : Nat), j ≤ w → ∀ k, k < w → (bswIn b w 0 acc j)[k]? = if w - j ≤ k then some (b.getD (w - 1 - k) 0) else acc[k]?
  | 0, _, k, hk => by rw [bswIn, if_neg (by omega)]
  | j + 1, hj, k, hk => by
    have ih := bswIn_get b w acc hs hb j (by omega) k hk
    have hsz := bswIn_size b w 0 acc j
    rw [bswIn, Array.getElem?_setIfInBounds]
    by_cases e : 0 * w + w - 1 - j = k
    · have e2 : 0 * w + j = w - 1 - k := by omega
      rw [if_pos e, if_pos (by omega), if_pos (by omega), e2]
    · rw [if_neg e, ih]
      by_cases h : w - j ≤ k
      · rw [if_pos h, if_pos (by omega)]
      · rw [if_neg h, if_neg (by omega)]
theorem bsw_all {b : Array UInt8} : bswOut b b.size 1 = b.reverse := by
  apply Array.ext_getElem?
  intro k
  have hs : (bswOut b b.size 0).size = b.size := bswOut_size b b.size 0
  by_cases hk : k < b.size
  · rw [bswOut, bswIn_get b b.size _ hs rfl b.size (Nat.le_refl _) k hk, if_pos (by omega)]
    rw [Array.getElem?_reverse hk, Array.getD_eq_getD_getElem?]
    rw [Array.getElem?_eq_getElem (show b.size - 1 - k < b.size by omega)]
    rfl
  · rw [Array.getElem?_eq_none (by rw [bswOut_size]; omega), Array.getElem?_eq_none (by rw [Array.size_reverse]; omega)]
theorem bInts_reverse {b : Array UInt8} : PySem.W.KBw.bInts b.reverse = (PySem.W.KBw.bInts b).reverse := by
  unfold PySem.W.KBw.bInts
  rw [Array.toList_reverse, List.map_reverse]
end Mine
namespace Mine
theorem specX_use {prog : Program} {w : World} {K : Frag} {p : Program} {loose : List Str} {mean : ExcName → Option Value} {mg mb : Str → Option Value} {dd uu : Nat} {f : Addr} {vs : List Value} {T : Led} {Post : Value → Led → Prop}
    {dp un : Nat} {gd : Option (List Code)} {cn : Str} {cs : Scope} {a : Addr} {ccd : Value} {cl : List (Str × Addr)} {outer : List Env} {A₀ : Around} {base h₀ : Heap} {L : Addr} {m : Str → Option Value} {s : Shared} {Q E : Value → Shared → Prop}
    (S : SpecX prog w K p loose mean mg mb dd uu f vs T Post) (B : Below A₀ base outer h₀) (F : Fr h₀ L s.heap m) (X : K.In h₀) (N : News h₀ L s.heap T) (Tp : Top p loose mean mg mb h₀) (hk : cs.kind = .function) (hd : dp + dd < recursionLimit) (hu : un + uu < cLine)
    (k : ∀ (r : Value) (new : Led) (h' : Heap) (tk' : Nat), Fr h₀ L h' m → News h₀ L h' (new ++ T) → (∀ q ∈ T, ∀ p ∈ new, q.1 < p.1) → Post r new → Q r { s with heap := h', toks := tk' }) :
    wpX (model prog w) (ktrTop dp un gd cn cs L a ccd cl outer) (call (.ref f) vs) Q E s := S _ _ _ _ _ _ _ _ _ _ _ _ _ _ _ _ _ B F X N Tp hk hd hu k
section
variable {prog : Program} {w : World} {A : Around} {E : Value → Shared → Prop} {s : Shared} {h₀ : Heap} {L l : Addr} {m : Str → Option Value} {news : Led} {ws : List Value} {k : Nat} {ns : List Int}
theorem bytesL_K {Q : Value → Shared → Prop} (hh : A.handled = none) (F : Fr h₀ L s.heap m) (N : News h₀ L s.heap news) (hl : (l, listOf ws.toArray k) ∈ news) (hi : IntsAre ws ns) (hr : ∀ n ∈ ns, 0 ≤ n ∧ n < 256) (hz : ws.length ≤ 1000000)
    (h : ∀ b' t h' tk, PySem.W.KBw.bInts b' = ns → b'.size = ns.length → Fr h₀ L h' m → News h₀ L h' news → Q (.bytes b' t) { s with heap := h', toks := tk }) : wpAny (model prog w) A (call (.type "bytes") [.ref l]) Q E s :=
  PySem.W.KBa.make_K F N hh (PySem.IsL.isList (n := k) (N _ hl).1) hi hr (by rw [← hi.length]; omega) fun h' t' tk F' N' hr' => h _ t' h' tk (PySem.W.KBa.ints_make hr) (byteArr_size ns) F' N'
end
theorem bInts_size {b : Array UInt8} {ks : List Int} (h : PySem.W.KBw.bInts b = ks) : b.size = ks.length := by rw [← h, PySem.W.KBw.ints_length]
theorem range_getD {ks : List Int} {g : Int → Int} : (List.range ks.length).map (fun i => g (ks.getD i 0)) = ks.map g := by
  apply List.ext_getElem
  · simp
  · intro i h1 h2
    simp only [List.length_map, List.length_range] at h1
    simp [List.getD_eq_getElem?_getD, List.getElem?_eq_getElem h1]
end Mine
end
section
open PySem PySem.W PyProof.Rows PySem.Calls
open PySem.Sem (wp)
set_option maxRecDepth 100000
namespace Mine
abbrev Never : Value → Shared → Prop := fun _ _ => False
section
variable {M : Model} {A : Around} {E : Value → Shared → Prop} {s : Shared} {env : Env}
theorem wpX_never {α : Type} {t : Sem α} {Q : α → Shared → Prop} (h : wpX M A t Q Never s) : wpX M A t Q E s := wpX_mono h (fun _ _ q => q) fun _ _ f => f.elim
end
section
variable {prog : Program} {w : World} {A : Around} {E : Value → Shared → Prop} {s : Shared} {env : Env} {h₀ : Heap} {x : Str} {px : Pos} {body : List Stmt} {Q : Flow → Shared → Prop}
end
end Mine
end
section
open PySem PySem.W PyProof.Rows PySem.Calls
open PySem.Sem (wp)
set_option maxRecDepth 100000
namespace Mine
noncomputable def retOf (r : Result) : Sem PySem.Fin := match r with | .ok f => pure (PySem.Fin.done f) | .error e => throw e
theorem point_of {R₁ R₂ : Result → Shared → Prop} (h : ∀ (M : Model) (cd : Code) (s : Shared), codeAny M (callerA.mark none) cd R₁ s → codeAny M (callerA.mark none) cd R₂ s) (p₀ : Program) (w₀ : World) : ∀ r s, R₁ r s → R₂ r s := by
  intro r s hr
  have hc : codeAny ⟨fun _ => retOf r, p₀, w₀⟩ (callerA.mark none) (.call .none ⟨[], []⟩) R₂ s := h _ _ s (fun Γ p e hΓ => by
    rw [wpCode_iff_wp]
    show wp _ Γ (retOf r) _ _ p s
    cases r with
    | ok f => unfold retOf; rw [Sem.wp_pure']; exact hr
    | error e => unfold retOf; rw [Sem.wp_throw]; exact hr)
  have hΓ := caller_in.enter (.call .none ⟨[], []⟩) none default (by intro x; cases x)
  have h2 := hc _ default rfl hΓ
  rw [wpCode_iff_wp] at h2
  cases r with
  | ok f =>
    have h3 : wp _ _ (retOf (.ok f)) _ _ default s := h2
    unfold retOf at h3; rw [Sem.wp_pure'] at h3; exact h3
  | error e =>
    have h3 : wp _ _ (retOf (.error e)) _ _ default s := h2
    unfold retOf at h3; rw [Sem.wp_throw] at h3; exact h3
theorem kn_postX {M : Model} {A : Around} {cd : Code} {s s₁ : Shared} {cw : ClaimW} {cl : Str → Option Addr} {mean : ExcName → Option Value} {args : List WData} {tabs : List (Addr × Addr)} (hT : TabsAt tabs s₁.heap) (hr : ∀ a x, cw.raises a x = false)
    (h : codeX M A cd (fun r s' => GoodW cw cl mean args { s₁ with heap := ghostOf s₁.heap tabs } r s' ∧ GrownAll tabs s'.heap) s) : codeX M A cd (GoodWG cw cl mean args s₁) s :=
  codeX_mono h (point_of (fun M' cd' s' h' => kn_post hT hr h') M.prog M.w)
theorem enter_callX {M : Model} {A : Around} {s : Shared} {f : Value} {pos : List Value} {c : ClaimW} {cl : Str → Option Addr} {mean : ExcName → Option Value} {args : List WData} {s₁ : Shared}
    (h : codeX M A (.call f ⟨pos, []⟩) (GoodWG c cl mean args s₁) s) : wpX M A (PySem.call f pos) (fun v s' => GoodWG c cl mean args s₁ (.ok (.ret v)) s') (fun e s' => GoodWG c cl mean args s₁ (.error e) s') s :=
  wpX_call (codeX_mono h fun res s' g => by rcases g.1 with ⟨v, _, _, rfl, _⟩ | ⟨e, _, _, rfl, _⟩ <;> exact g)
section
variable {prog : Program} {w : World} {A : Around} {s : Shared} {R : Result → Shared → Prop}
theorem call_cellsX {name : Str} {params : Arguments} {body : List Stmt} {scope : Scope}
    {pm cd doc : Value} {a : Addr} {o : Obj} {args : List Value} {binds : List (Str × Value)}
    (hroom : A.depth < recursionLimit) (ho : s.heap.get? a = some o) (hdata : o.data = .func (Calls.docDef name params body scope pm cd doc)) (hlim : s.heap.NoLimit) (hcd : s.heap.CodeRec cd name)
    (hbind : bindArgs (Calls.docDef name params body scope pm cd doc) ⟨args, []⟩ = pure binds)
    (hkind : ∀ x ∈ binds, scope.names.lookup x.1 = some .local ∨ (scope.names.lookup x.1 = some .cell ∧ ((cellsFrom (s.heap.objs.size + 1) scope.names []).lookup x.1).isSome = true))
    (hnd : ((cellsFrom 0 scope.names []).map (·.1)).Nodup)
    (h : ∀ h₁ tk cells, Fr s.heap s.heap.objs.size h₁ (bindL (envOfC name scope s.heap.objs.size a cd).kindOf binds fun _ => none) → News s.heap s.heap.objs.size h₁ cells →
      CellsAre (bindC (envOfC name scope s.heap.objs.size a cd).kindOf binds fun _ => none) (cellsFrom (s.heap.objs.size + 1) scope.names []) cells →
      wpX (model prog w) (A.deeper (envOfC name scope s.heap.objs.size a cd)) (execs body (envOfC name scope s.heap.objs.size a cd))
        (fun f s' => R (.ok (.ret (match f with | .ret v => v | _ => .none))) s') Never
        { s with heap := h₁, toks := tk })
    (hco : scope.isCoroutine = false := by rfl) (hgen : scope.isGenerator = false := by rfl) (hk : scope.kind = .function := by rfl) :
    codeX (model prog w) A (.call (.ref a) ⟨args, []⟩) R s := by
  refine codeX_call_function (fd := Calls.docDef name params body scope pm cd doc) hroom ho hdata hco hgen rfl hcd ?_
  rw [hbind]
  refine wpAny_pure (wpAny_newFunctionEnv_cells hk hkind fun env he s' x => ?_)
  subst he
  refine ⟨hlim.keeps x.toInCall.keep, codeX_func (wpX_never ?_)⟩
  obtain ⟨h₁, tk, rfl, _⟩ := x.done
  obtain ⟨cells, N, Y⟩ := Cl.news (h₀ := s.heap) (Nat.le_refl _) fun n c hm => ⟨x.cell n c (lookup_of_mem_nodup (cellsFrom_names scope.names 0 (s.heap.objs.size + 1) [] [] rfl ▸ hnd) hm), x.above n c hm⟩
  exact h h₁ tk cells ⟨x.toInCall.ns, x.toInCall.keep, x.toInCall.fresh⟩ N Y
end
end Mine
namespace Mine
section
variable {M : Model} {A : Around} {E : Value → Shared → Prop} {s : Shared} {env : Env}
end
end Mine
end
section
open PySem PySem.W PyProof.Rows PySem.Calls
open PySem.Sem (wp)
set_option maxRecDepth 100000
namespace Mine
theorem wp_of_wpX {M : Model} {t : Sem PySem.Fin} {R : Result → Shared → Prop} {s : Shared}
    (h : wpX M callerA t (fun fin s' => ∃ f, fin = .done f ∧ R (.ok f) s') (fun e s' => R (.error e) s') s) (p : Pos) :
    wp M ⟨.builtin "claim.caller" {}, none, none, [], none⟩ t (Sem.finPost M ⟨.builtin "claim.caller" {}, none, none, [], none⟩ R) (fun e _ s' => R (.error e) s') p s := by
  refine Sem.wp_mono M _ t (fun fin p' s' h' => ?_) (fun _ _ _ h' => h') p s (h _ p (fun _ hx => nomatch hx) (show badIds.contains "claim.caller" = false from by decide +kernel) caller_in)
  obtain ⟨f, rfl, hf⟩ := h'
  exact hf
abbrev WalkX (q : Program) (loose : List Str) (XP : (Str → Option Value) → Heap → Prop) (YP : World → Heap → Prop) (r : RowW) (d : DefRec) (kwd : List (Str × Expr)) : Prop :=
  ∀ (w : World) (s₀ s₁ : Shared) (mg mb : Str → Option Value), Ground q loose r.records XP w s₀ mg mb s₁.heap → YP w s₁.heap → ∀ (a : Addr) (o : Obj) (pm cd doc dV kV : Value), s₁.heap.get? a = some o →
    o.data = .func { docDef d.name d.params d.body d.scope pm cd doc with defaults := dV, kwdefaults := kV } → s₁.heap.CodeRec cd d.name → Dflts mg s₁.heap d.params kwd dV kV → mg d.name = some (.ref a) → s₁.gens = #[] →
    ∀ (args : List WData) (vals : List Value) (as : List Addr), r.claim.pre args = true → WData.layableAll args = true → ReadsAllW r.records (classAt s₀.heap) s₁.heap vals args as → WellAll w.params s₁.heap vals args → (∀ a ∈ as, (a == sysModules) = false) →
      wpX (model r.prog w) callerA (PySem.call (.ref a) vals) (fun v s' => GoodWG r.claim (classAt s₀.heap) (ExcName.means s₀.heap) args s₁ (.ok (.ret v)) s')
        (fun e s' => GoodWG r.claim (classAt s₀.heap) (ExcName.means s₀.heap) args s₁ (.error e) s') s₁
abbrev LeftX (p q : Program) (loose : List Str) (Xt : Shared → Bool) {α : Type} (Yf : Shared → α) (Ya : World → α) (N : Nat) : Prop := LeftO p q loose Xt Yf Ya N true
theorem PySem.W.holds_open {r : OpenRow} {q : Program} {loose : List Str} {Xt : Shared → Bool} {XP : (Str → Option Value) → Heap → Prop} {α : Type} {Yf : Shared → α} {Ya : World → α} {YP : World → Heap → Prop} {d : DefRec} {kwd : List (Str × Expr)} {N : Nat}
    (left : LeftX r.prog q loose Xt Yf Ya N) (hY : ∀ w s, Yf s = Ya w → YP w s.heap) (hYk : ∀ w h h', YP w h → (∀ b o, h.get? b = some o → h'.get? b = some o) → YP w h')
    (hX : ∀ s, Xt s = true → XP (s.heap.nsMap mainGlobals) s.heap) (hXk : ∀ mg h h', XP mg h → (∀ b o, h.get? b = some o → h'.get? b = some o) → XP mg h')
    (hdef : defOf q r.name = some (d, kwd)) (hp : r.prog.theDef r.name = some (d.params, d.body, d.scope)) (hk : kwWritten? d.params.kwonlyargs d.params.kw_defaults = some kwd) (hRf : ∀ s, Xt s = true → RecFacts r.records s.heap) (hwr : (!r.writes || r.records.isEmpty) = true)
    (k1 : r.wellSaid = true) (ok : (chainsOk q && opensWell r.prog && (frees r.toRowW && r.within.isEmpty)) = true) (hb : r.prog.bare) (hw : r.toRowW.promised)
    (call : WalkX q loose XP YP r.toRowW d kwd) : r.Holds := by
  obtain ⟨ok1, k5⟩ := Bool.and_eq_true_iff.mp ok
  obtain ⟨hch, o1⟩ := Bool.and_eq_true_iff.mp ok1
  obtain ⟨k5, k6⟩ := Bool.and_eq_true_iff.mp k5
  obtain ⟨hsame, hu, ha, hap, hm⟩ := frees_parts k5
  have hi := ident_freeW hu ha hap
  have hwi : r.toRowW.claim.within = [] := List.isEmpty_iff.mp k6
  refine ⟨k1, hw, ⟨hb, o1, by show r.makers.map _ = []; rw [hm]; rfl⟩, hw.witness, fun w => ?_⟩
  have bh := LeftO.behind (g0 := true) left (XP := fun mg h => XP mg h ∧ RecFacts r.records h) (fun s hs => ⟨hX s hs, hRf s hs⟩) hch w
  refine ⟨bh.1, fun s' hs' => ?_⟩
  obtain ⟨s₀, hf, hg0, s, hT, hz, hgens, hg, G00, y⟩ := bh.2 s' hs'
  have G0 : Ground q loose [] XP w s (s.heap.nsMap mainGlobals) (s.heap.nsMap builtinsNs) s.heap := ⟨G00.T, G00.B, G00.D, G00.TE, G00.TD, G00.W, G00.X.1, G00.cls, G00.has, G00.apart, G00.once, G00.K⟩
  have RF := G00.X.2
  refine ⟨s₀, hf, hg0, s, hT, fun n hn => ?_, RF.1, RF.2.1, ?_⟩
  · obtain rfl : n = r.name := by split at hn <;> simp_all
    exact pinned_of_view hg G0 hdef hp hk
  have hgens : s.gens = #[] := Array.eq_empty_of_size_eq_zero (beq_iff_eq.mp hgens)
  have G : Ground q loose r.records XP w s _ _ s.heap := RF.ground G0
  intro args hpre hlay ord hord
  obtain ⟨⟨vs, s₁⟩, hlaid⟩ := Option.isSome_iff_exists.mp (layAllW_isSome (P := w.params) (ord := ord) G.has args r.args s (pre_splitW hpre).1)
  have keeps := layAllW_keeps _ _ _ hlaid
  have hal := layAllW_rest _ _ _ hlaid
  obtain ⟨as, hrd, hin, hold⟩ := reads_layAllW hord _ _ _ hlaid hlay s₁.heap (fun _ _ e => e)
  have L : Laid r.records w s s₁ args vs as := ⟨⟨ord, hord, hlaid⟩, hrd, hin, hold, keeps, hal.1.trans hgens, hal.2.2.1⟩
  have G₁ := G.keeps hXk keeps
  obtain ⟨a, o, pm, cd, doc, dV, kV, h1, h2, h3, h4, h5⟩ := G₁.fn hdef
  have hcall := call w s s₁ _ _ G₁ (hYk _ _ _ (hY w s y) keeps) a o pm cd doc dV kV h2 h3 h4 h5 (defOf_name hdef ▸ h1) L.gens args vs as hpre hlay L.reads L.well (L.low G.low)
  have hlifeX : s₁.asleep := Shared.asleep_of_life hal.2.2.2 hz
  have hend : ∀ (x : Result) (z : Shared), GoodWG r.toRowW.claim (classAt s.heap) (ExcName.means s.heap) args s₁ x z →
      (r.toRowW.claim.Ends s args vs s₁ x z ∧ z.os = s.os ∧ (r.writes = true → namesKept r.prog r.keeps s.heap z.heap ∧ ∀ x ∈ r.records, ∀ a, classAt s.heap x.1 = some a → recordClass z.heap a x.1 (x.2.map (·.1)) = true)) ∧ leftWithCleanup z.gens = false := fun x z g => by
    have e := g.laid (c := r.toRowW.claim) hsame hwi hi L
    exact ⟨⟨e.1, e.2.1, fun q => ⟨namesKept_of hT hg r.keeps keeps g.2.1.old, noTable hwr q⟩⟩, leftWithCleanup_false_of_bare e.2.2⟩
  obtain ⟨n, x, z₁, z₂, hs, hn, hfo, hR⟩ := wp_halts_full (M := model r.prog w) hlifeX
    (wp_of_wpX (R := fun x z => (r.toRowW.claim.Ends s args vs s₁ x z ∧ z.os = s.os ∧ (r.writes = true → namesKept r.prog r.keeps s.heap z.heap ∧ ∀ x ∈ r.records, ∀ a, classAt s.heap x.1 = some a → recordClass z.heap a x.1 (x.2.map (·.1)) = true)) ∧ leftWithCleanup z.gens = false)
      (t := do match ← nsGet mainNs r.name with
        | some f => do ret (← PySem.call f vs)
        | none => unsupported "claim.caller:no-such-global")
      (wpX_bindA (wpAny_nsGet G₁.T.g (by
        rw [h1]
        exact wpX_bind (wpX_mono hcall (fun v z g => wpX_pure ⟨_, rfl, hend _ _ g⟩) fun e z g => hend _ _ g)))) default)
  obtain ⟨eh, _, _, eo, _⟩ := Shared.forget_eq hfo
  obtain ⟨hc, hos, hkp⟩ := hR
  have hcase := hc.congr eh
  have hlife := (runN_life _ _ _ hn).trans hal.2.2.2
  refine ⟨vs, s₁, hlaid, n, _, z₂, hs, ?_, (fun _ i x hx => by rw [hgens] at hx; simp at hx), fun q => by rw [eh]; exact hkp q, by rw [hlife], Shared.rest_eq (eo.trans hos)⟩
  rcases hcase with ⟨v, rfl, d1, d2, d3, d4, d5⟩ | ⟨e, ob, cls, rfl, d1, d2, d3, d4, d5⟩
  · exact .inl ⟨v, rfl, d1, d2, d3, fun b o y _ => d4 b o y, d5⟩
  · exact .inr ⟨e, ob, cls, rfl, d1, d2, d3, d4, fun b o y _ => d5 b o y⟩
end Mine
end
section
open PySem PySem.W PyProof.Rows
namespace Mine
set_option maxRecDepth 100000 in
set_option maxHeartbeats 8000000 in
open_top hd for PySem.Challenge.rw_wf0044_01
end Mine
end
open PySem PySem.W PyProof.Rows in
theorem Mine.topOff : True := by
  w_top off
  exact trivial

section
open PySem PySem.W PyProof.Rows PySem.Calls
set_option maxRecDepth 100000
namespace Mine
local macro_rules | `(tactic| k_all) => `(tactic| assumption)
local macro_rules | `(tactic| walk_at "setItem ref int") => `(tactic| (k_here; (with_reducible show wpAny _ _ (setItem (Value.ref _) (Value.int _ _) (Value.int _ _)) _ _ _); k_dflt (refine' setItem_baK ?k1 ?k2 ?k3 ?k5 ?k6 ?_; (case k1 => k_asm); (case k2 => k_asm); (case k3 => k_upd)); (case k5 => (show _; omega)); (case k6 => exact byte_rng _); k_whole; intro h' F' N'; (try k_sweep)))
local macro_rules | `(tactic| walk_at "subscriptTail") => `(tactic| (k_here; (with_reducible show wpAny _ _ (subscriptTail _ _ (Value.bytes _ _) (Value.int _ _)) _ _ _); (refine item_bK (by omega) (by omega) ?_)))
local macro_rules | `(tactic| walk_at "pyIter ref") => `(tactic| (k_here; refine Stop.mk ?_))
set_option maxHeartbeats 8000000 in
theorem bs_spec (w : World) (loose mean mg mb) (T : Led) (b : Array UInt8) (width : Int) (t1 t2 : Tok) (hb : 0 < b.size ∧ b.size < 1000) (hw : 0 < width ∧ width < 1000) (q : Nat) (hq : (b.size : Int) = q * width) :
   SpecX PySem.Challenge.pw_wf0044_01 w (Mine.hd.heap_39 w.params) topProg loose mean mg mb 5 20 77 [.bytes b t1, .int width t2] T (fun v new => ∃ t, v = .bytes (bswOut b width.toNat q) t ∧ new = []) := by
  unfold SpecX
  intro dp un gd cn cs a ccd cl outer A₀ base h₀ L m s Q E B F X N Tp hk hd hu hret
  refine wpX_call ?_
  have hk0 : (PySem.Challenge.rw_wf0044_01 = PySem.Challenge.rw_wf0044_01 ∧ Mine.hd.heap_39 = Mine.hd.heap_39) := by (k_fill; exact ⟨rfl, rfl⟩)
  clear hk0
  refine' code_defX ?k1 ?k2 ?k3 ?k4 ?k5 ?kA ?kF ?kK ?k6 ?k7 ?k8 ?k9 ?kB ?_ ?c2 ?c3 ?c4 ?c5
  case kA => exact rfl
  case kF => exact rfl
  case kK => assumption
  case k1 => k_asm
  case k2 => k_asm
  case k3 => k_asm
  case k4 => k_asm
  case k5 => k_asm
  case k6 => k_dflt k_is
  case k7 => k_dflt k_is
  case k8 => ktr_room
  case k9 => exact BindsTo.of_eq rfl
  case c5 => decide
  case kB => exact locs rfl
  case c2 => exact rfl
  case c3 => exact rfl
  case c4 => exact rfl
  intro g' L' h' FG' F' N' B' X' T'
  (try dsimp only)
  refine wpX_execs_cons (wpX_Assign_Name (wpX_Call ?_))
  k_steps
  refine callWithX_type1 ?_
  k_steps
  refine ba_call rfl (by omega) (by omega) ?_
  intro d h2 tk2 hd2 hk2 ho2
  (rename Fr _ _ _ _ => F2)
  (rename News _ _ _ _ => N2)
  have F3 := F2.grownK hk2
  have hlt : L' < d := Nat.lt_of_lt_of_le F2.ns.lt hd2
  have N3 : News g' L' h2 ((d, baObj (Array.replicate (b.size : Int).toNat 0)) :: T) := fun p hp => by
    rcases List.mem_cons.mp hp with rfl | hp
    · exact ⟨ho2, Nat.ne_of_gt hlt, Heap.get?_none_of_le (Nat.le_trans F2.above (Nat.le_of_lt hlt))⟩
    · exact ⟨hk2 _ _ (N2 p hp).1, (N2 p hp).2⟩
  have lT : ∀ p ∈ T, p.1 < d := fun p hp => Nat.lt_of_lt_of_le (Heap.lt_size (N2 p hp).1) hd2
  clear F2 N2
  k_steps
  refine wpX_of_any ?_
  k_steps
  refine Stop.in ?_
  refine iter_rangeD [Str.ofString "i", Str.ofString "j"] (fun i o => o = baObj (bswOut b width.toNat i)) rfl (by assumption) ?_ (n := q) ?_ (by assumption) (by assumption) ?_ ?_ ?_
  · exact range_small' ⟨by omega, by omega⟩ ⟨by omega, by omega⟩ ⟨by omega, by omega⟩
  · exact range_size' (by omega) hq
  · exact bsw0
  · intro I i t' u o h3 tk3 it hi ho hdI hTI hTI2 hdI2 hic F3 N3
    subst ho
    obtain ⟨iv, hiv⟩ : ∃ iv : Int, iv = 0 + (i : Int) * width := ⟨_, rfl⟩
    have hiv0 : 0 ≤ iv := by rw [hiv, Int.zero_add]; exact Int.mul_nonneg (by omega) (by omega)
    have hiv1 : iv + width ≤ b.size := by
      rw [hiv, hq, Int.zero_add]
      have : ((i : Int) + 1) * width ≤ q * width := Int.mul_le_mul_of_nonneg_right (by omega) (by omega)
      rw [Int.add_mul, Int.one_mul] at this
      exact this
    have hivN : iv = ((i * width.toNat : Nat) : Int) := by
      rw [hiv, Int.natCast_mul, Int.toNat_of_nonneg (by omega), Int.zero_add]
    rw [← hiv] at F3
    have hTd : ∀ p ∈ T, p.1 ≠ d := fun p hp => Nat.ne_of_lt (lT p hp)
    have hsz := bswOut_size b width.toNat i
    clear hiv
    k_steps
    refine Stop.in ?_
    (rename News _ _ _ _ => N4)
    refine iter_rangeD [Str.ofString "j"] (fun j o => o = baObj (bswIn b width.toNat i (bswOut b width.toNat i) j)) rfl (by assumption) (range_small' ⟨by omega, by omega⟩ ⟨by omega, by omega⟩ ⟨by omega, by omega⟩) (n := width.toNat) (range_size1 (by omega)) (by assumption) (news_swap N4) rfl ?_ ?_
    · intro I2 j t2 u2 o2 h4 tk4 it2 hj ho2 hdI3 hTI3 hTI4 hdI4 hic2 F5 N5
      subst ho2
      have hT2 : ∀ p ∈ (I, it) :: T, p.1 ≠ d := fun p hp => by
        rcases List.mem_cons.mp hp with rfl | hp
        · exact Ne.symm hdI
        · exact hTd p hp
      have hsz2 := bswIn_size b width.toNat i (bswOut b width.toNat i) j
      have hjw : (j : Int) < width := by omega
      k_steps
      refine TurnD.fin (by assumption) (by assumption) ?_ ?_
      · repeat (first | exact map_base | refine map_peel (by decide) ?_)
      · rw [bswIn]
        have e1 : (iv + width - 1 - (0 + (j : Int) * 1)).toNat = i * width.toNat + width.toNat - 1 - j := by omega
        have e2 : (iv + (0 + (j : Int) * 1)).toNat = i * width.toNat + j := by omega
        rw [e1, e2]
        simp
    · intro u2 o2 h4 tk4 ho2 F5 N5
      subst ho2
      k_steps
      refine TurnD.fin (by assumption) (news_swap (by assumption)) ?_ ?_
      · repeat (first | exact map_base | refine map_inner (by decide) ?_ | refine map_peel (by decide) ?_)
      · rfl
  · intro u o h3 tk3 ho F3 N3
    subst ho
    have hsz := bswOut_size b width.toNat q
    k_steps
    refine bytes_baK rfl (by assumption) (by assumption) (.head _) (by omega) fun t tk => ?_
    k_steps
    (rename News _ _ _ _ => Nl)
    exact hret0 hret (by assumption) (fun p hp => Nl p (.tail _ hp)) ⟨_, rfl, rfl⟩
end Mine
end
section
open PySem PySem.W PyProof.Rows PySem.Calls
set_option maxRecDepth 100000
namespace Mine
theorem cells_four {ys : List Value} {d : List Int} {q0 q1 q2 q3 : Int} {ta tb tc td : Tok} (h : IntsAre ys (d.map fun c => c % 1000000)) (hl : ys.length ≤ 4) (hq : (0 ≤ q0 ∧ q0 < 1000000) ∧ (0 ≤ q1 ∧ q1 < 1000000) ∧ (0 ≤ q2 ∧ q2 < 1000000) ∧ (0 ≤ q3 ∧ q3 < 1000000)) :
    ∃ c0 c1 c2 c3 t0 t1 t2 t3, ys ++ [.int q0 ta, .int q1 tb, .int q2 tc, .int q3 td].drop ys.length = [.int c0 t0, .int c1 t1, .int c2 t2, .int c3 t3] ∧ (0 ≤ c0 ∧ c0 < 1000000) ∧ (0 ≤ c1 ∧ c1 < 1000000) ∧ (0 ≤ c2 ∧ c2 < 1000000) ∧ (0 ≤ c3 ∧ c3 < 1000000) := by
  have r : ∀ x : Int, 0 ≤ x % 1000000 ∧ x % 1000000 < 1000000 := fun x => by omega
  obtain ⟨h0, h1, h2, h3⟩ := hq
  rcases d with _ | ⟨a, d⟩
  · cases h
    exact ⟨q0, q1, q2, q3, ta, tb, tc, td, rfl, h0, h1, h2, h3⟩
  rcases d with _ | ⟨b, d⟩
  · cases h with | cons _ t0 h => cases h with | nil =>
    exact ⟨_, q1, q2, q3, t0, tb, tc, td, rfl, r a, h1, h2, h3⟩
  rcases d with _ | ⟨c, d⟩
  · cases h with | cons _ t0 h => cases h with | cons _ t1 h => cases h with | nil =>
    exact ⟨_, _, q2, q3, t0, t1, tc, td, rfl, r a, r b, h2, h3⟩
  rcases d with _ | ⟨e, d⟩
  · cases h with | cons _ t0 h => cases h with | cons _ t1 h => cases h with | cons _ t2 h => cases h with | nil =>
    exact ⟨_, _, _, q3, t0, t1, t2, td, rfl, r a, r b, r c, h3⟩
  rcases d with _ | ⟨f, d⟩
  · cases h with | cons _ t0 h => cases h with | cons _ t1 h => cases h with | cons _ t2 h => cases h with | cons _ t3 h => cases h with | nil =>
    exact ⟨_, _, _, _, t0, t1, t2, t3, rfl, r a, r b, r c, r e⟩
  · cases h with | cons _ t0 h => cases h with | cons _ t1 h => cases h with | cons _ t2 h => cases h with | cons _ t3 h => cases h with | cons _ t4 h =>
    simp only [List.length_cons] at hl
    omega
theorem tabs_start {P P' : Addr} : Tabs P P' [(P, tabObj #[]), (P', tabObj #[])] := ⟨[(P, tabObj #[])], [(P', tabObj #[])], rfl, .inl rfl, .inl rfl⟩
end Mine
namespace Mine
end Mine
namespace Mine
theorem news_tail {h₀ h : Heap} {L : Addr} {p : Addr × Obj} {T : Led} (N : News h₀ L h (p :: T)) : News h₀ L h T := fun q hq => N q (.tail _ hq)
end Mine
end
section
open PySem PySem.W PyProof.Rows PySem.Calls
set_option maxRecDepth 100000
namespace Mine
local macro_rules | `(tactic| walk_at "none") => `(tactic| fail)
local macro_rules | `(tactic| walk_at "none") => `(tactic| fail)
local macro_rules | `(tactic| walk_at "call builtin:max") => `(tactic| (k_here; (with_reducible show wpAny _ _ (call (Value.builtin _) [Value.int _ _, Value.int _ _, Value.int _ _]) _ _ _); refine' max3_K ?k0 ?k1 ?k2 ?_; (case k0 => exact rfl); (case k1 => k_asm); (case k2 => k_asm); k_whole; intro t' h' tk' F' N'; (try k_sweep)))
local macro_rules | `(tactic| walk_at "call builtin:min") => `(tactic| (k_here; (with_reducible show wpAny _ _ (call (Value.builtin _) [Value.int _ _, Value.int _ _, Value.int _ _]) _ _ _); refine' min3_K ?k0 ?k1 ?k2 ?_; (case k0 => exact rfl); (case k1 => k_asm); (case k2 => k_asm); k_whole; intro t' h' tk' F' N'; (try k_sweep)))
theorem rgb_rng {r g b : Int} (hr : 0 ≤ r ∧ r < 1048576) (hg : 0 ≤ g ∧ g < 1048576) (hb : 0 ≤ b ∧ b < 1048576) :
    0 ≤ min r (min g b) ∧ max r (max g b) < 1048576 ∧ min r (min g b) ≤ max r (max g b) ∧ r ≤ max r (max g b) ∧ g ≤ max r (max g b) ∧ b ≤ max r (max g b) ∧ 0 ≤ r ∧ 0 ≤ g ∧ 0 ≤ b :=
  ⟨Int.le_min.mpr ⟨hr.1, Int.le_min.mpr ⟨hg.1, hb.1⟩⟩, Int.max_lt.mpr ⟨hr.2, Int.max_lt.mpr ⟨hg.2, hb.2⟩⟩, Int.le_trans (Int.min_le_left _ _) (Int.le_max_left _ _), Int.le_max_left _ _, Int.le_trans (Int.le_max_left g b) (Int.le_max_right r _), Int.le_trans (Int.le_max_right g b) (Int.le_max_right r _), hr.1, hg.1, hb.1⟩
section
variable {prog : Program} {w : World} {A : Around} {E : Value → Shared → Prop} {s : Shared} {t u : Tok} {r g b : Int} {Q : Value → Shared → Prop}
theorem divm_K (hA : A.handled = none) (hr : 0 ≤ r ∧ r < 1048576) (hg : 0 ≤ g ∧ g < 1048576) (hb : 0 ≤ b ∧ b < 1048576) (hne : min r (min g b) ≠ max r (max g b))
    (h : Q (.float (fdv (max r (max g b) - min r (min g b)) (max r (max g b))) s.toks) { s with toks := s.toks + 1 }) : wpAny (model prog w) A (binaryOp .Div (.int (max r (max g b) - min r (min g b)) t) (.int (max r (max g b)) u)) Q E s := by
  have z := rgb_rng hr hg hb
  generalize max r (max g b) = M at *
  generalize min r (min g b) = m at *
  exact divii_K hA (by omega) (by omega) h
theorem divr_K {x : Int} (hA : A.handled = none) (hr : 0 ≤ r ∧ r < 1048576) (hg : 0 ≤ g ∧ g < 1048576) (hb : 0 ≤ b ∧ b < 1048576) (hne : min r (min g b) ≠ max r (max g b)) (hx : x = r ∨ x = g ∨ x = b)
    (h : Q (.float (fdv (max r (max g b) - x) (max r (max g b) - min r (min g b))) s.toks) { s with toks := s.toks + 1 }) : wpAny (model prog w) A (binaryOp .Div (.int (max r (max g b) - x) t) (.int (max r (max g b) - min r (min g b)) u)) Q E s := by
  have z := rgb_rng hr hg hb
  generalize max r (max g b) = M at *
  generalize min r (min g b) = m at *
  exact divii_K hA (by omega) (by omega) h
end
local macro_rules | `(tactic| walk_at "binaryOp Div int int") => `(tactic| (k_here; first | (refine' divm_K ?k0 ?k1 ?k2 ?k3 ?k4 ?_; (case k0 => with_unfolding_all exact rfl); (case k1 => assumption); (case k2 => assumption); (case k3 => assumption); (case k4 => assumption)) | (refine' divr_K ?k0 ?k1 ?k2 ?k3 ?k4 ?k5 ?_; (case k0 => with_unfolding_all exact rfl); (case k1 => assumption); (case k2 => assumption); (case k3 => assumption); (case k4 => assumption); (case k5 => first | exact .inl rfl | exact .inr (.inl rfl) | exact .inr (.inr rfl)))))
set_option maxHeartbeats 8000000 in
theorem rgb_spec (w : World) (loose mean mg mb) (T : Led) (r g b : Int) (t1 t2 t3 : Tok) (hr : 0 ≤ r ∧ r < 1048576) (hg : 0 ≤ g ∧ g < 1048576) (hb : 0 ≤ b ∧ b < 1048576) :
   Spec PySem.Challenge.pw_wf0044_01 w (Mine.hd.heap_39 w.params) topProg loose mean mg mb 5 20 63 [.int r t1, .int g t2, .int b t3] T (rgbPost r g b) := by
  unfold Spec
  intro dp un gd cn cs a ccd cl outer A₀ base h₀ L m s Q E B F X N Tp hk hd hu hret
  refine wpAny_call ?_
  have hk0 : (PySem.Challenge.rw_wf0044_01 = PySem.Challenge.rw_wf0044_01 ∧ Mine.hd.heap_39 = Mine.hd.heap_39) := by (k_fill; exact ⟨rfl, rfl⟩)
  clear hk0
  k_dflt ktr_enter
  k_steps
  · exact hret1 hret (by assumption) (by assumption) (by assumption) (rgbPost0 (by assumption))
  · refine hret1 hret (by assumption) (by assumption) (by assumption) (rgbPostN (by assumption) rfl ?_)
    rw [if_pos (by assumption)]
  · refine hret1 hret (by assumption) (by assumption) (by assumption) (rgbPostN (by assumption) rfl ?_)
    rw [if_neg (by assumption), if_pos (by assumption)]
  · refine hret1 hret (by assumption) (by assumption) (by assumption) (rgbPostN (by assumption) rfl ?_)
    rw [if_neg (by assumption), if_neg (by assumption)]
end Mine
end
section
open PySem PySem.W PyProof.Rows PySem.Calls
set_option maxRecDepth 100000
set_option exponentiation.threshold 6000
namespace Mine
abbrev c1 : UInt64 := 4607182418800017408
abbrev c6 : UInt64 := 4618441417868443648
noncomputable def hsvN (h : UInt64) : Int := Flt.toInt Float64.truncOf (Float64.mul h 4618441417868443648)
noncomputable def hsvR (h : UInt64) : UInt64 := Float64.sub (Float64.mul h 4618441417868443648) (Float64.ofInt (hsvN h))
noncomputable def hsvP (sg V : UInt64) : UInt64 := Float64.mul V (Float64.sub 4607182418800017408 sg)
noncomputable def hsvQ (h sg V : UInt64) : UInt64 := Float64.mul V (Float64.sub 4607182418800017408 (Float64.mul sg (hsvR h)))
noncomputable def hsvT (h sg V : UInt64) : UInt64 := Float64.mul V (Float64.sub 4607182418800017408 (Float64.mul sg (Float64.sub 4607182418800017408 (hsvR h))))
noncomputable def hsvF (h sg V : UInt64) : UInt64 × UInt64 × UInt64 :=
  if (Float64.cmp sg 0 == some .eq) = true then (V, V, V) else
  if (hsvN h).fmod 6 = 0 then (V, hsvT h sg V, hsvP sg V) else
  if (hsvN h).fmod 6 = 1 then (hsvQ h sg V, V, hsvP sg V) else
  if (hsvN h).fmod 6 = 2 then (hsvP sg V, V, hsvT h sg V) else
  if (hsvN h).fmod 6 = 3 then (hsvP sg V, hsvQ h sg V, V) else
  if (hsvN h).fmod 6 = 4 then (hsvT h sg V, hsvP sg V, V) else (V, hsvP sg V, hsvQ h sg V)
noncomputable def hsvPost (h sg V : UInt64) (v : Value) (new : Led) : Prop :=
  ∃ D u1 u2 u3, v = .ref D ∧ new = [(D, tupObj [.float (hsvF h sg V).1 u1, .float (hsvF h sg V).2.1 u2, .float (hsvF h sg V).2.2 u3])]
theorem hsvPost_of {h sg V a b c : UInt64} {D : Addr} {u1 u2 u3 : Tok} (e : hsvF h sg V = (a, b, c)) : hsvPost h sg V (.ref D) [(D, tupObj [.float a u1, .float b u2, .float c u3])] :=
  ⟨D, u1, u2, u3, rfl, by rw [e]⟩
theorem ov_no {n : Int} (h : n.natAbs < 1000000) : ¬ 2 ^ 1024 - 2 ^ 970 ≤ n.natAbs := by
  have : 1000000 ≤ 2 ^ 1024 - 2 ^ 970 := by decide
  omega
theorem fmod6 {n : Int} (h0 : n.fmod 6 ≠ 0) (h1 : n.fmod 6 ≠ 1) (h2 : n.fmod 6 ≠ 2) (h3 : n.fmod 6 ≠ 3) (h4 : n.fmod 6 ≠ 4) (h5 : n.fmod 6 ≠ 5) : False := by
  have e := Int.fmod_eq_emod_of_nonneg n (show (0 : Int) ≤ 6 by omega)
  omega
end Mine
end
section
open PySem PySem.W PyProof.Rows PySem.Calls
set_option maxRecDepth 100000
namespace Mine


set_option maxHeartbeats 8000000 in
theorem hsv_spec (w : World) (loose mean mg mb) (T : Led) (h sg V : UInt64) (t1 t2 t3 : Tok) (hn : Float64.isNaN (Float64.mul h 4618441417868443648) = false) (hi : Float64.isInf (Float64.mul h 4618441417868443648) = false) (hs : (hsvN h).natAbs < 1000000) :
   Spec PySem.Challenge.pw_wf0044_01 w (Mine.hd.heap_39 w.params) topProg loose mean mg mb 5 20 70 [.float h t1, .float sg t2, .float V t3] T (hsvPost h sg V) := by
  unfold Spec
  intro dp un gd cn cs a ccd cl outer A₀ base h₀ L m s Q E B F X N Tp hk hd hu hret
  refine wpAny_call ?_
  have hk0 : (PySem.Challenge.rw_wf0044_01 = PySem.Challenge.rw_wf0044_01 ∧ Mine.hd.heap_39 = Mine.hd.heap_39) := by (k_fill; exact ⟨rfl, rfl⟩)
  clear hk0
  k_dflt ktr_enter
  k_steps
  · exact hret1 hret (by assumption) (by assumption) (by assumption) (hsvPost_of (by unfold hsvF; rw [if_pos (by assumption)]))
  · exact absurd (by assumption) (ov_no hs)
  all_goals have hz : ¬ (Float64.cmp sg 0 == some Ordering.eq) = true := by simp_all
  · exact hret1 hret (by assumption) (by assumption) (by assumption) (hsvPost_of (by unfold hsvF; rw [if_neg hz, if_pos (by assumption)]; rfl))
  · exact hret1 hret (by assumption) (by assumption) (by assumption) (hsvPost_of (by unfold hsvF; rw [if_neg hz, if_neg (by assumption), if_pos (by assumption)]; rfl))
  · exact hret1 hret (by assumption) (by assumption) (by assumption) (hsvPost_of (by unfold hsvF; rw [if_neg hz, if_neg (by assumption), if_neg (by assumption), if_pos (by assumption)]; rfl))
  · exact hret1 hret (by assumption) (by assumption) (by assumption) (hsvPost_of (by unfold hsvF; rw [if_neg hz, if_neg (by assumption), if_neg (by assumption), if_neg (by assumption), if_pos (by assumption)]; rfl))
  · exact hret1 hret (by assumption) (by assumption) (by assumption) (hsvPost_of (by unfold hsvF; rw [if_neg hz, if_neg (by assumption), if_neg (by assumption), if_neg (by assumption), if_neg (by assumption), if_pos (by assumption)]; rfl))
  · exact hret1 hret (by assumption) (by assumption) (by assumption) (hsvPost_of (by unfold hsvF; rw [if_neg hz, if_neg (by assumption), if_neg (by assumption), if_neg (by assumption), if_neg (by assumption), if_neg (by assumption)]; rfl))
  all_goals exact (fmod6 (by assumption) (by assumption) (by assumption) (by assumption) (by assumption) (by assumption)).elim
end Mine
end
section
open PySem PySem.W PyProof.Rows PySem.Calls
set_option maxRecDepth 100000
namespace Mine
noncomputable def hue6 (k : Int) : UInt64 := Float64.div (Float64.ofInt k) 4618441417868443648
noncomputable def paint6 (k : Int) : UInt64 × UInt64 × UInt64 := hsvF (hue6 k) 4607182418800017408 4607182418800017408
noncomputable def finH (x : UInt64) : Bool := Float64.isFinite (Float64.add x 4602678819172646912)
noncomputable def r6 (k : Int) : Int := rnd (paint6 k).1
noncomputable def g6 (k : Int) : Int := rnd (paint6 k).2.1
noncomputable def b6 (k : Int) : Int := rnd (paint6 k).2.2
noncomputable def told6 (k : Int) : UInt64 := Float64.add (Float64.mul 4618441417868443648 (rgbH (r6 k) (g6 k) (b6 k))) 4602678819172646912
noncomputable def rngC (x : Int) : Bool := decide (0 ≤ x ∧ x < 1048576)
noncomputable def hue6Ok (k : Int) : Bool := !Float64.isNaN (Float64.mul (hue6 k) 4618441417868443648) && (!Float64.isInf (Float64.mul (hue6 k) 4618441417868443648) && (decide ((hsvN (hue6 k)).natAbs < 1000000) && (finH (paint6 k).1 && (finH (paint6 k).2.1 && (finH (paint6 k).2.2 &&
  (rngC (r6 k) && (rngC (g6 k) && (rngC (b6 k) && (Float64.isFinite (told6 k) && decide (fint (told6 k) = k % 6))))))))))
noncomputable def hst (p : Nat) (r s : Int) : Nat → List Int × Int
  | 0 => (List.replicate p 0, 1)
  | i + 1 => ((hst p r s i).1.set (hst p r s i).2.toNat (s * i % 6), (hst p r s i).2 * r % p)
noncomputable def huesL (p : Nat) (r s : Int) : List Int := (hst p r s (p - 1)).1
noncomputable def rowSt (p : Nat) (a : Int) (e : Nat) : Nat → List Int
  | 0 => List.replicate p 0
  | i + 1 => (rowSt p a e i).set (a * (i : Int) ^ e % p).toNat ((rowSt p a e i).getD (a * (i : Int) ^ e % p).toNat 0 + 1)
noncomputable def rowL (p : Nat) (a : Int) (e : Nat) : List Int := rowSt p a e p
noncomputable def lampsL (hs : List Int) (own : Int) : List Int := 0 :: (hs.drop 1).map fun h => if h % 3 = own then 1 else 0
noncomputable def prodW (w : Nat) (A B : List Int) : Int := dnum w A * dnum w B
noncomputable def modW (w p : Nat) : Int := 2 ^ (w * p) - 1
noncomputable def restW (w p : Nat) (A B : List Int) : List Int := digs w p (prodW w A B % modW w p)
noncomputable def wholeOk (w p : Nat) (A B : List Int) : Bool := decide (p ≤ figs w (prodW w A B)) && decide (digs w (figs w (prodW w A B / modW w p)) (prodW w A B / modW w p) = (digs w (figs w (prodW w A B)) (prodW w A B)).drop p)
noncomputable def toldP (fs hs : List Int) (own third : Int) : List Int := (List.range (hs.length - 1)).filterMap fun j => if (hs.getD (j + 1) 0 - own) % 3 = third then some (fs.getD (j + 1) 0) else none
noncomputable def rowsOf : List (Nat × Int) := [(7, 3), (13, 2), (19, 2), (31, 3), (37, 2)]
noncomputable def sizeF (r g b : Int) : UInt64 :=
  let sp := Float64.mul (rgbS r g b) (Float64.ofInt (max r (max g b)))
  let u := (Float64.divmod (Float64.mul 4618441417868443648 (rgbH r g b)) 4607182418800017408).2
  Float64.add (Float64.mul (Float64.mul sp sp) (Float64.add (Float64.sub 4607182418800017408 u) (Float64.mul u u))) 4602678819172646912
noncomputable def trH (r g b : Int) (k : Int) : UInt64 := Float64.add (rgbH r g b) (Float64.div (Float64.ofInt k) 4618441417868443648)
noncomputable def trP (r g b k : Int) : UInt64 × UInt64 × UInt64 := hsvF (trH r g b k) (rgbS r g b) (Float64.ofInt (max r (max g b)))
noncomputable def trace (r g b k : Int) : Int := 2 * rnd (trP r g b k).1 - rnd (trP r g b k).2.1 - rnd (trP r g b k).2.2
noncomputable def lampsOf (q : Nat × Int) (s own : Int) : List Int := lampsL (huesL q.1 q.2 s) own
noncomputable def figL (q : Nat × Int) (s own : Int) : List Int := restW 6 q.1 (lampsOf q s own) (lampsOf q s own)
noncomputable def widths : List Nat := [6, 7, 8, 9, 10, 11, 12, 13]
noncomputable def partOf (q : Nat × Int) (s third : Int) : Int := (toldP (figL q s 0) (huesL q.1 q.2 s) 0 third).getD 0 0
noncomputable def tabA (q : Nat × Int) (s own : Int) (w : Nat) : Bool := wholeOk w q.1 (lampsOf q s own) (lampsOf q s own) && decide (restW w q.1 (lampsOf q s own) (lampsOf q s own) = figL q s own)
noncomputable def partOk (q : Nat × Int) (s own third : Int) : Bool := !(toldP (figL q s own) (huesL q.1 q.2 s) own third).isEmpty && (toldP (figL q s own) (huesL q.1 q.2 s) own third).all fun x => decide (x = partOf q s third)
noncomputable def tabB (q : Nat × Int) (s own : Int) : Bool := partOk q s own 0 && (partOk q s own 1 && (partOk q s own 2 && (decide ((figL q s own).getD 0 0 = ((q.1 : Int) - 1) / 3) &&
  decide ([partOf q s 0 % 2, partOf q s 1 % 2, partOf q s 2 % 2] = [0, 1, 2].map fun t => if t = (huesL q.1 q.2 s).getD 2 0 % 3 then 1 else 0))))
theorem hue6_all : ((List.range 176).all fun i => hue6Ok (i : Int)) = true := by decide +kernel
theorem tabA_all : (rowsOf.all fun q => [1, 5].all fun s => [0, 1, 2].all fun own => widths.all fun w => tabA q s own w) = true := by decide +kernel
theorem tabB_all : (rowsOf.all fun q => [1, 5].all fun s => [0, 1, 2].all fun own => tabB q s own) = true := by decide +kernel
end Mine
end
section
open PySem PySem.W PyProof.Rows PySem.Calls
open PyProof.Rows.LCg
set_option maxRecDepth 100000
namespace Mine
local macro_rules | `(tactic| walk_at "none") => `(tactic| fail)
theorem hue6_at {t : Int} (h : 0 ≤ t ∧ t < 176) : hue6Ok t = true := by
  have h1 := List.all_eq_true.mp hue6_all t.toNat (List.mem_range.mpr (by omega))
  rwa [Int.toNat_of_nonneg h.1] at h1
theorem hst_len {p : Nat} {r s : Int} : ∀ i, (hst p r s i).1.length = p
  | 0 => by rw [hst, List.length_replicate]
  | i + 1 => by rw [hst, List.length_set, hst_len i]
theorem hst_rng {p : Nat} {r s : Int} (hp : 2 ≤ p) : ∀ i, 0 ≤ (hst p r s i).2 ∧ (hst p r s i).2 < p
  | 0 => by rw [hst]; show (0 : Int) ≤ 1 ∧ (1 : Int) < p; omega
  | i + 1 => by
    rw [hst]
    exact ⟨Int.emod_nonneg _ (by omega), Int.emod_lt_of_pos _ (by omega)⟩
theorem ints_set {vs : List Value} {ns : List Int} (h : IntsAre vs ns) (i : Nat) (x : Int) (t : Tok) : IntsAre (vs.set i (.int x t)) (ns.set i x) := by
  induction h generalizing i with
  | nil => exact .nil
  | cons a u h ih =>
    cases i with
    | zero => exact .cons _ _ h
    | succ i => exact .cons _ _ (ih i)
theorem map_int {stored : List Str} {a : Str} {p q : Int} {t : Tok} {m m₀ : Str → Option Value} (e : p = q) (hv : m a = some (.int q t)) (h : ∀ y, stored.contains y = false → m y = m₀ y) :
    m = fun z => if z = a then some (.int p t) else mapD stored m m₀ z := by
  subst e
  exact map_one hv h
theorem pick_tok {h₀ h : Heap} {L : Addr} {led : Led} (_ : News h₀ L h led) (d : Addr) (f : Tok → Obj) (k : ∃ t, (d, f t) ∈ led) : ∃ t, (d, f t) ∈ led := k
theorem sk_rng {s : Int} {i : Nat} (hs : s = 1 ∨ s = 5) (hi : i < 36) : 0 ≤ s * (0 + (i : Int) * 1) ∧ s * (0 + (i : Int) * 1) < 176 := by
  rcases hs with rfl | rfl <;> omega
local macro_rules | `(tactic| k_mem) => `(tactic| first | assumption | (apply List.Mem.tail; k_mem))
local macro_rules | `(tactic| k_all) => `(tactic| first | assumption | (refine allNe_lt (by assumption) ?_; show @LE.le Nat _ _ _; omega))
local macro_rules | `(tactic| walk_at "call ref") => `(tactic| (k_here; refine Stop.mk ?_))
local macro_rules | `(tactic| walk_at "pyIter ref") => `(tactic| (k_here; refine Stop.mk ?_))
local macro_rules | `(tactic| walk_at "eval ListComp") => `(tactic| (k_here; refine Stop.mk ?_))
local macro_rules | `(tactic| walk_at "CompEnd") => `(tactic| (refine Stop.mk ?_))
local macro_rules | `(tactic| walk_at "exec For Name Call cons nil") => `(tactic| (k_here; k_dflt (refine For_J (by k_asm) (by rfl) (by rfl) ?_ (by with_unfolding_all passes_own))))
local macro_rules | `(tactic| walk_at "binaryOp Mult ref int") => `(tactic| (k_here; k_dflt (refine' rep_K ?k1 ?k2 ?k3 ?k4 ?_; (case k1 => k_asm); (case k2 => k_asm); (case k3 => k_mem); (case k4 => (show _; omega)); k_whole); intro D' h' vs' F' N' l1 i1 n1; (try k_lt l1)))
local macro_rules | `(tactic| walk_at "setItem ref int") => `(tactic| (k_here; k_dflt (refine' set_lK ?k1 ?k2 ?k3 ?k4 ?_; (case k1 => k_asm); (case k2 => k_asm); (case k3 => k_upd); (case k4 => assumption); k_whole); intro h' F' N'; (try k_sweep)))
local macro_rules | `(tactic| walk_at "binaryOp Mult int int") => `(tactic| (k_here; refine mul_K (small_int (by omega)) (small_int (by omega)) ?_))
local macro_rules | `(tactic| walk_at "binaryOp Div int float") => `(tactic| (k_here; refine divif_K (by omega) (by decide +kernel) ?_))
local macro_rules | `(tactic| walk_at "call type:int") => `(tactic| (k_here; (with_reducible show wpAny _ _ (call _ [Value.float _ _]) _ _ _); refine intF_K rfl (by assumption) ?_))
noncomputable def huesPost (p : Nat) (r s : Int) (T : Led) (v : Value) (T' : Led) : Prop := ∃ D ws k, v = .ref D ∧ T' = (D, listOf (List.toArray ws) k) :: T ∧ (∀ q ∈ T, q.1 ≠ D) ∧ IntsAre ws (huesL p r s)
set_option maxHeartbeats 8000000 in
theorem hues_spec (w : World) (loose mean mg mb) (T : Led) (p : Nat) (r s : Int) (t1 t2 t3 : Tok) (hp : 2 ≤ p ∧ p < 38) (hr : 0 ≤ r ∧ r < 10) (hs : s = 1 ∨ s = 5) :
   SpecT PySem.Challenge.pw_wf0044_01 w (Mine.hd.heap_39 w.params) topProg loose mean mg mb 15 80 82 [.int (p : Int) t1, .int r t2, .int s t3] T (huesPost p r s T) := by
  unfold SpecT
  intro dp un gd cn cs a ccd cl outer A₀ base h₀ L m s0 Q E B F X N Tp hk hd hu hret
  refine wpAny_call ?_
  have hk0 : (PySem.Challenge.rw_wf0044_01 = PySem.Challenge.rw_wf0044_01 ∧ Mine.hd.heap_39 = Mine.hd.heap_39) := by (k_fill; exact ⟨rfl, rfl⟩)
  clear hk0
  k_dflt ktr_enter
  k_steps
  refine Stop.in ?_
  (rename News _ _ _ _ => Nn)
  (rename Fr _ _ _ _ => FF)
  rename IntsAre _ (List.replicate _ 0) => iz
  rename ∀ p ∈ T, _ => lT
  refine with_fr FF fun m0 hm0 F0 => ?_
  refine name2 Nn fun Dt Dh hDt hDh => ?_
  subst hDt
  subst hDh
  rename _ ∧ AllLt Dh T => lDh
  have hT2 : ∀ q ∈ T, q.1 ≠ Dh := allLt_neOf lDh.2
  have NB := news_sub (news_tail Nn) (fun q hq => by
    rcases List.mem_cons.mp hq with rfl | hq
    · exact .head _
    · exact .tail _ (.tail _ hq) : ∀ q ∈ (Dh, listOf (List.toArray _) 0) :: T, q ∈ _)
  rw [Int.toNat_natCast] at iz
  refine iter_rangeJ (n := p - 1) (J := fun i m led => ∃ u tp ws k, m = (fun z => if z = Str.ofString "place" then some (.int (hst p r s i).2 tp) else mapD [Str.ofString "place", Str.ofString "step", Str.ofString "paint", Str.ofString "red", Str.ofString "green", Str.ofString "blue"] u m0 z) ∧ led = (Dh, listOf (List.toArray ws) k) :: T ∧ IntsAre ws (hst p r s i).1)
     rfl (by assumption) (range_small' ⟨by omega, by omega⟩ ⟨by omega, by omega⟩ ⟨by omega, by omega⟩) (range_size1 (by omega)) F0 NB ?_ ?_ ?_
  · subst hm0
    exact ⟨_, _, _, 0, map_one rfl map_self, rfl, iz⟩
  · subst hm0
    rintro I i t' m1 led h tk it hi ⟨u, tp, ws, k, rfl, rfl, hws⟩ hoI _ hic FT NT
    have n2 : @Ne Nat I Dh := Ne.symm (hoI (Dh, _) (.head _))
    have hwl : ws.length = p := by rw [hws.length, hst_len]
    have hpl := hst_rng (p := p) (r := r) (s := s) hp.1 i
    have hk := sk_rng (s := s) (i := i) hs (by omega)
    have hq := hue6_at hk
    have hset : 0 ≤ (hst p r s i).2 ∧ (hst p r s i).2 < (ws.length : Int) ∧ ws.length < 1000000 := by omega
    simp only [hue6Ok, rngC, Bool.and_eq_true, Bool.not_eq_true', decide_eq_true_eq] at hq
    obtain ⟨q1, q2, q3, q4, q5, q6, q7, q8, q9, q10, q11⟩ := hq
    k_steps
    refine Stop.in ?_
    unfold finH paint6 at q4 q5 q6
    k_dflt (refine' spec_use (hsv_spec w loose mean mg mb _ (hue6 (s * (0 + (i : Int) * 1))) _ _ _ _ _ q1 q2 q3) ?k1 ?k2 ?k3 ?k4 ?k5 ?kK ?kd ?ku ?_; (case k1 => k_asm); (case k2 => k_asm); (case k3 => k_asm); (case k4 => k_asm); (case k5 => k_asm); (case kK => exact rfl))
    case kd => ktr_room
    case ku => ktr_units
    rintro rv5 new5 h5 tk5 F5 N5 l5 ⟨Dt5, u1, u2, u3, rfl, rfl⟩
    dsimp only at F5 N5
    have l5' : ∀ q ∈ (I, it) :: (Dh, listOf (List.toArray ws) k) :: T, q.1 < Dt5 := fun q hq => l5 q hq _ (List.Mem.head _)
    clear l5
    (try k_lt l5')
    k_steps
    refine Stop.in ?_
    k_dflt (refine ListComp_W (by k_asm) (by rfl) (by decide) (by rfl) (by decide) (by rfl) ?_)
    k_steps
    refine Stop.in ?_
    refine blk_tuple rfl (by k_asm) (by k_asm) (List.Mem.head _) (by simp) fun gh => ?_
    refine comp_ints (fun j => ([r6 (s * (0 + (i : Int) * 1)), g6 (s * (0 + (i : Int) * 1)), b6 (s * (0 + (i : Int) * 1))] : List Int).getD j 0) ?_ ?_
    · intro j v ys I2 oI C oC D2 m₂ h2 tk2 E' hj hP hC hx2 F6 N6 off6 ne6
      rcases j with _ | _ | _ | j
      all_goals (simp only [List.getElem?_cons_zero, List.getElem?_cons_succ, List.getElem?_nil, Option.some.injEq, reduceCtorEq] at hP <;> (subst hP))
      all_goals k_steps
      all_goals refine Stop.in ?_
      all_goals exact CompEnd.fin0 (by assumption) (by assumption) off6 (List.Mem.head _) rfl
    · intro ys hys
      replace hys : IntsAre ys [r6 (s * (0 + (i : Int) * 1)), g6 (s * (0 + (i : Int) * 1)), b6 (s * (0 + (i : Int) * 1))] := hys
      obtain ⟨kk, hkk⟩ : ∃ kk, kk = s * (0 + (i : Int) * 1) := ⟨_, rfl⟩
      rw [← hkk] at hys q7 q8 q9 q10 q11
      cases hys with | cons _ ta hys => cases hys with | cons _ tb hys => cases hys with | cons _ tc hys => cases hys with | nil =>
      unfold FinE
      intro D3 h3 tk3 F3 N3 o3
      replace o3 := off1_of o3
      have n1 : @Ne Nat D3 Dh := Ne.symm (o3 (Dh, _) (.tail _ (.tail _ (.head _))))
      k_steps
      refine Stop.in ?_
      unfold told6 at q10 q11
      k_dflt (refine' spec_use (rgb_spec w loose mean mg mb _ (r6 kk) (g6 kk) (b6 kk) _ _ _ q7 q8 q9) ?k1 ?k2 ?k3 ?k4 ?k5 ?kK ?kd ?ku ?_; (case k1 => k_asm); (case k2 => k_asm); (case k3 => k_asm); (case k4 => k_asm); (case k5 => k_asm); (case kK => exact rfl))
      case kd => ktr_room
      case ku => ktr_units
      rintro rv7 new7 h7 tk7 F7 N7 l7 ⟨Dt7, u1', u2', u3', rfl, rfl⟩
      (try dsimp only at F7 N7)
      have l7' := fun q hq => l7 q hq _ (List.Mem.head _)
      clear l7
      have n3 : @Ne Nat Dt7 Dh := Nat.ne_of_gt (l7' (Dh, _) (.tail _ (.tail _ (.tail _ (.head _)))))
      (try k_lt l7')
      k_steps
      rename Fr _ _ _ _ => FZ
      rename News _ _ _ _ => NZ
      obtain ⟨tz, htz⟩ := pick_tok NZ Dh (fun t => listOf (List.toArray (ws.set (hst p r s i).2.toNat (Value.int (fint (Float64.add (Float64.mul 4618441417868443648 (rgbH (r6 kk) (g6 kk) (b6 kk))) 4602678819172646912)) t))) k) ⟨_, .tail _ (.tail _ (.tail _ (.tail _ (.head _))))⟩
      refine TurnJ.fin FZ NZ ((Dh, listOf (List.toArray (ws.set (hst p r s i).2.toNat (Value.int (fint (Float64.add (Float64.mul 4618441417868443648 (rgbH (r6 kk) (g6 kk) (b6 kk))) 4602678819172646912)) tz))) k) :: T) ?ma ?mb ?mc
      case ma =>
        intro q hq
        rcases List.mem_cons.mp hq with rfl | hq
        · exact .tail _ (.tail _ (.tail _ (.head _)))
        rcases List.mem_cons.mp hq with rfl | hq
        · exact htz
        · exact .tail _ (.tail _ (.tail _ (.tail _ (.tail _ hq))))
      case mb =>
        intro q hq
        rcases List.mem_cons.mp hq with rfl | hq
        · exact Ne.symm n2
        · exact hoI q (.tail _ hq)
      case mc =>
        refine ⟨_, _, _, _, map_int ?_ rfl ?_, rfl, ?_⟩
        rotate_left
        · repeat (first | exact map_base | refine map_peel (by decide) ?_)
        · rw [hst, ← show kk % 6 = s * (i : Int) % 6 from by rw [hkk, Int.zero_add, Int.mul_one], ← q11]
          exact ints_set hws _ _ _
        · rw [hst, Int.fmod_eq_emod_of_nonneg _ (by omega)]
  · subst hm0
    rintro m1 led h tk ⟨u, tp, ws, k, rfl, rfl, hws⟩ FT NT
    k_steps
    rename Fr h₀ L _ _ => FZ
    rename News h₀ L _ _ => NZ
    exact hret _ _ _ _ FZ NZ ⟨Dh, ws, k, rfl, rfl, hT2, hws⟩
end Mine
end
section
open PySem PySem.W PyProof.Rows PySem.Calls
open PyProof.Rows.LCg
set_option maxRecDepth 100000
namespace Mine
open PyProof.Rows.LCt
section
variable {prog : Program} {w : World} {A : Around} {E : Value → Shared → Prop} {s : Shared} {h₀ : Heap} {L : Addr} {m : Str → Option Value} {news : Led} {l l' : Addr} {vs vs' : List Value} {ns ns' : List Int} {k k' : Nat}
theorem eqints_K {Q : Value → Shared → Prop} (N : News h₀ L s.heap news) (hl : (l, listOf vs.toArray k) ∈ news) (hl' : (l', listOf vs'.toArray k') ∈ news) (hi : IntsAre vs ns) (hj : IntsAre vs' ns') (hu : A.units + 64 < cLine) (h : Q (.bool (decide (ns = ns'))) s) :
    wpAny (model prog w) A (compareOp .Eq (.ref l) (.ref l')) Q E s :=
  ke_eq_ints (PySem.IsL.isList (n := k) (N _ hl).1) (PySem.IsL.isList (n := k') (N _ hl').1) hi hj hu h
theorem neints_K {Q : Value → Shared → Prop} (N : News h₀ L s.heap news) (hl : (l, listOf vs.toArray k) ∈ news) (hl' : (l', listOf vs'.toArray k') ∈ news) (hi : IntsAre vs ns) (hj : IntsAre vs' ns') (hu : A.units + 64 < cLine) (h : Q (.bool (!decide (ns = ns'))) s) :
    wpAny (model prog w) A (compareOp .NotEq (.ref l) (.ref l')) Q E s :=
  ke_ne_ints (PySem.IsL.isList (n := k) (N _ hl).1) (PySem.IsL.isList (n := k') (N _ hl').1) hi hj hu h
end
end Mine
end
section
open PySem PySem.W PyProof.Rows PySem.Calls
set_option maxRecDepth 100000
namespace Mine
local macro_rules | `(tactic| k_mem) => `(tactic| assumption)
local macro_rules | `(tactic| k_all) => `(tactic| first | assumption | (refine allNe_lt (by assumption) ?_; show @LE.le Nat _ _ _; omega))
local macro_rules | `(tactic| walk_at "call ref") => `(tactic| (k_here; refine Stop.mk ?_))
local macro_rules | `(tactic| walk_at "truthy ref") => `(tactic| (k_here; k_dflt (refine' truthy_lK ?k1 ?k2 ?k3 ?_; (case k1 => k_asm); (case k2 => k_mem)); (case k3 => (show _; omega)); k_whole))
local macro_rules | `(tactic| walk_at "call builtin:len") => `(tactic| (k_here; (with_reducible show wpAny _ _ (call (Value.builtin "len") [Value.ref _]) _ _ _); k_dflt (refine' len_lK ?k1 ?k2 ?k3 ?_; (case k1 => k_asm); (case k2 => k_mem)); (case k3 => (show _; omega)); k_whole; intro _))
local macro_rules | `(tactic| walk_at "binaryOp RShift int int") => `(tactic| (k_here; (with_reducible refine rshift1_K ?_)))
local macro_rules | `(tactic| walk_at "binaryOp Mult int int") => `(tactic| (k_here; refine mul_K (small_int (by omega)) (small_int (by omega)) ?_))
local macro_rules | `(tactic| walk_at "binaryOp LShift int int") => `(tactic| (k_here; refine lshift_K (by assumption) (by assumption) ?_))
set_option exponentiation.threshold 6000 in
set_option maxHeartbeats 8000000 in
theorem d2i_in (w : World) (loose mean mg mb) (T R : Led) (hT : (T = (37, tabObj #[]) :: R ∧ ∀ p ∈ R, p.1 ≠ 37) ∨ ∃ c0 oc0 vs0 t0, T = (37, tabObj #[rawInt 47, rawInt 4, .ref c0]) :: (c0, oc0) :: R ∧ oc0.data = .fields vs0 ∧ vs0[1]? = some (.str (Str.ofString "_digits2int.<locals>.inner") t0)) (l : Addr) (vs : List Value) (ds : List Int) (k : Nat) (n : Int) (t2 : Tok) (hl : (l, listOf vs.toArray k) ∈ R) (hi : IntsAre vs ds) (hlen : 0 < ds.length ∧ ds.length < 200) (hn : 0 < n ∧ n < 5000) (hdig : ∀ d ∈ ds, d.natAbs < 2 ^ 5000)
   :
   SpecT PySem.Challenge.pw_wf0044_01 w (Mine.hd.heap_39 w.params) topProg loose mean mg mb (ds.length + 10) (8 * ds.length + 80) 42 [.ref l, .int n t2] T (fun v T' => ∃ t A', v = .int (dnum n.toNat ds) t ∧ T' = A' ++ R ∧ TabOk 37 47 4 (Str.ofString "_digits2int.<locals>.inner") A') := by
  have hvl := hi.length
  unfold SpecT
  intro dp un gd cn cs a ccd cl outer A₀ base h₀ L m s Q E B F X N Tp hk hd hu hret
  refine wpAny_call ?_
  have hk0 : (PySem.Challenge.rw_wf0044_01 = PySem.Challenge.rw_wf0044_01 ∧ Mine.hd.heap_39 = Mine.hd.heap_39) := by (k_fill; exact ⟨rfl, rfl⟩)
  clear hk0
  rcases hT with ⟨rfl, hR⟩ | ⟨c0, oc0, vs0, t0, rfl, hoc0, hvs0⟩
  ·
      k_dflt (refine' code_defC ?k1 ?k2 ?k3 ?k4 ?k5 ?kA ?kF ?kK ?k6 ?k7 ?k8 ?k9 ?kB ?kD ?_ ?c2 ?c3 ?c4; (case kA => exact rfl); (case kF => exact rfl); (case kK => assumption); (case k1 => k_asm); (case k2 => k_asm); (case k3 => k_asm); (case k4 => k_asm); (case k5 => k_asm); (case k6 => k_is); (case k7 => k_is); (case k8 => ktr_room); (case k9 => exact BindsTo.of_eq rfl); (case kB => exact rfl); (case kD => decide +kernel); (case c2 => exact rfl); (case c3 => exact rfl); (case c4 => exact rfl); k_whole; intro g' L' h' tk' cells' FG' F' N' Y' B' X' T' l1; (try k_lt l1); k_cells Y'; (try simp only [List.cons_append, List.nil_append] at N'); (try dsimp only); (try k_lift B'); (try k_fold))
      obtain ⟨l51, lR⟩ := l1
      have C : CodeHd g' 41 37 := codeHd_of_K X' (by kernel_rfl)
      k_steps
      refine Stop.in ?_
      (rename News _ _ _ _ => Nn)
      refine with_call fun f hff => ?_
      subst hff
      refine with_ledger Nn fun Bl hBl NB => ?_
      have inner : ∀ (sz lo hi : Nat) (ta tb : Tok) (T2 : Led), hi - lo ≤ sz → lo < hi → hi ≤ ds.length → (∀ q ∈ Bl, q ∈ T2) →
          Spec PySem.Challenge.pw_wf0044_01 w (Mine.hd.heap_39 w.params) topProg loose mean mg mb (hi - lo + 3) (8 * (hi - lo) + 40) f [.int lo ta, .int hi tb] T2
            (fun v new => ∃ t, v = .int (dnum n.toNat (seg ds lo hi)) t ∧ new = []) := by
        intro sz
        induction sz with
        | zero => intro lo hi ta tb T2 h1 h2; omega
        | succ sz ih =>
          intro lo hi ta tb T2 h1 h2 h3 hsub
          have hm0 := hsub (_, _) (by rw [hBl]; exact List.Mem.head _)
          have hm1 := hsub (_, _) (by rw [hBl]; exact List.Mem.tail _ (List.Mem.head _))
          have hm2 := hsub (_, _) (by rw [hBl]; exact List.Mem.tail _ (List.Mem.tail _ (List.Mem.head _)))
          have hm3 := hsub (_, _) (by rw [hBl]; exact List.Mem.tail _ (List.Mem.tail _ (List.Mem.tail _ (List.Mem.head _))))
          have hm4 := hsub (_, _) (by rw [hBl]; exact List.Mem.tail _ (List.Mem.tail _ (List.Mem.tail _ (List.Mem.tail _ (List.Mem.head _)))))
          have hm5 := hsub (_, _) (by rw [hBl]; exact List.Mem.tail _ (List.Mem.tail _ (List.Mem.tail _ (List.Mem.tail _ (List.Mem.tail _ (List.Mem.head _))))))
          have hml := hsub _ (by rw [hBl]; exact List.Mem.tail _ (List.Mem.tail _ (List.Mem.tail _ (List.Mem.tail _ (List.Mem.tail _ (List.Mem.tail _ (hl)))))))
          unfold Spec
          intro dp2 un2 gd2 cn2 cs2 a2 ccd2 cl2 outer2 A2 base2 h20 L2 m2 s2 Q2 E2 B2 F2 X2 N2 Tp2 hk2 hd2 hu2 hret2
          refine wpAny_call ?_
          k_dflt (refine' code_nest ?k1 ?k2 ?k3 ?k4 ?k5 ?kA ?kF ?kK ?k6 ?k7 ?k8 ?k9 ?kB ?_ ?c2 ?c3 ?c4 ?c5; (case kA => exact rfl); (case kF => exact rfl); (case kK => assumption); (case k1 => k_asm); (case k2 => k_asm); (case k3 => k_asm); (case k4 => k_asm); (case k5 => k_asm); (case k6 => k_mem); (case k7 => exact codeRec_news (by k_asm) (by k_mem) (by assumption) (by assumption)); (case k8 => ktr_room); (case k9 => exact BindsTo.of_eq rfl); (case c5 => decide); (case kB => exact locs rfl); (case c2 => exact rfl); (case c3 => exact rfl); (case c4 => exact rfl); k_whole; intro g3 L3 h3 FG3 F3 N3 B3 X3 T3; (try dsimp only); (try k_lift B3); (try k_fold))
          have hmid : ((lo : Int) + hi) / 2 = (((lo + hi) / 2 : Nat) : Int) := by omega
          obtain ⟨mid, hmd⟩ : ∃ mid, mid = (lo + hi) / 2 := ⟨_, rfl⟩
          rw [← hmd] at hmid
          k_steps
          · have e : hi = lo + 1 := by omega
            subst e
            exact hret0 hret2 (by assumption) (by assumption) ⟨_, congrArg (fun z => Value.int z _) (dnum_one n.toNat (by omega)).symm, rfl⟩
          · refine Stop.in ?_
            rw [hmid]
            k_dflt (refine' spec_use (ih mid hi _ _ T2 (by omega) (by omega) (by omega) hsub) ?k1 ?k2 ?k3 ?k4 ?k5 ?kK ?kd ?ku ?_; (case k1 => k_asm); (case k2 => k_asm); (case k3 => k_asm); (case k4 => k_asm); (case k5 => k_asm); (case kK => exact rfl))
            case kd => ktr_room
            case ku => ktr_units
            rintro r new h4 tk4 F4 N4 _ ⟨t4, rfl, rfl⟩
            have hS : Small (dnum n.toNat (seg ds mid hi)) := dnum_seg_small (by omega) hlen.2 hdig
            have hsh : 0 ≤ (((lo : Int) + hi) / 2 - lo) * n ∧ (((lo : Int) + hi) / 2 - lo) * n ≤ 10000000 := shift_rng ⟨by omega, by omega⟩ hn
            replace N4 : News g3 L3 h4 T2 := N4
            k_steps
            refine Stop.in ?_
            rw [hmid]
            k_dflt (refine' spec_use (ih lo mid _ _ T2 (by omega) (by omega) (by omega) hsub) ?k1 ?k2 ?k3 ?k4 ?k5 ?kK ?kd ?ku ?_; (case k1 => k_asm); (case k2 => k_asm); (case k3 => k_asm); (case k4 => k_asm); (case k5 => k_asm); (case kK => exact rfl))
            case kd => ktr_room
            case ku => ktr_units
            rintro r new h5 tk5 F5 N5 _ ⟨t5, rfl, rfl⟩
            replace N5 : News g3 L3 h5 T2 := N5
            k_steps
            exact hret0 hret2 (by assumption) (by assumption) ⟨_, congrArg (fun z => Value.int z _) (dnum_join (by omega) (by omega) (by omega) (by assumption) rfl), rfl⟩
      rw [hvl]
      have inn := fun ta tb => inner ds.length 0 ds.length ta tb Bl (Nat.le_refl _) hlen.1 (Nat.le_refl _) (fun _ h => h)
      simp only [show ((0 : Nat) : Int) = 0 from rfl] at inn
      k_dflt (refine' spec_use (inn _ _) ?k1 ?k2 ?k3 ?k4 ?k5 ?kK ?kd ?ku ?_; (case k1 => k_asm); (case k2 => k_asm); (case k3 => k_asm); (case k4 => k_asm); (case k5 => k_asm); (case kK => exact rfl))
      case kd => ktr_room
      case ku => ktr_units
      rintro r new h5 tk5 F5 N5 _ ⟨t5, rfl, rfl⟩
      replace N5 : News g' L' h5 Bl := N5
      rw [hBl] at N5
      k_steps
      rename News h₀ L _ _ => NZ
      rename Fr h₀ L _ _ => FZ
      try simp only [Array.empty_append] at NZ
      obtain ⟨A', NA, hA⟩ := tab_exit (P := 37) (li := 47) (co := 4) (q := Str.ofString "_digits2int.<locals>.inner") (R := R) NZ (by repeat (first | exact List.Mem.head _ | apply List.Mem.tail)) (by repeat (first | exact List.Mem.head _ | apply List.Mem.tail)) (fun p hp => by repeat (first | exact hp | apply List.Mem.tail)) (by assumption) (by assumption)
      exact hret _ _ _ _ FZ NA ⟨_, _, by rw [seg_all], rfl, hA⟩
  ·
      k_dflt (refine' code_defC ?k1 ?k2 ?k3 ?k4 ?k5 ?kA ?kF ?kK ?k6 ?k7 ?k8 ?k9 ?kB ?kD ?_ ?c2 ?c3 ?c4; (case kA => exact rfl); (case kF => exact rfl); (case kK => assumption); (case k1 => k_asm); (case k2 => k_asm); (case k3 => k_asm); (case k4 => k_asm); (case k5 => k_asm); (case k6 => k_is); (case k7 => k_is); (case k8 => ktr_room); (case k9 => exact BindsTo.of_eq rfl); (case kB => exact rfl); (case kD => decide +kernel); (case c2 => exact rfl); (case c3 => exact rfl); (case c4 => exact rfl); k_whole; intro g' L' h' tk' cells' FG' F' N' Y' B' X' T' l1; (try k_lt l1); k_cells Y'; (try simp only [List.cons_append, List.nil_append] at N'); (try dsimp only); (try k_lift B'); (try k_fold))
      obtain ⟨l51, lR⟩ := l1
      have C : CodeHd g' 41 37 := codeHd_of_K X' (by kernel_rfl)
      k_steps
      refine Stop.in ?_
      (rename News _ _ _ _ => Nn)
      refine with_call fun f hff => ?_
      subst hff
      refine with_ledger Nn fun Bl hBl NB => ?_
      have inner : ∀ (sz lo hi : Nat) (ta tb : Tok) (T2 : Led), hi - lo ≤ sz → lo < hi → hi ≤ ds.length → (∀ q ∈ Bl, q ∈ T2) →
          Spec PySem.Challenge.pw_wf0044_01 w (Mine.hd.heap_39 w.params) topProg loose mean mg mb (hi - lo + 3) (8 * (hi - lo) + 40) f [.int lo ta, .int hi tb] T2
            (fun v new => ∃ t, v = .int (dnum n.toNat (seg ds lo hi)) t ∧ new = []) := by
        intro sz
        induction sz with
        | zero => intro lo hi ta tb T2 h1 h2; omega
        | succ sz ih =>
          intro lo hi ta tb T2 h1 h2 h3 hsub
          have hm0 := hsub (_, _) (by rw [hBl]; exact List.Mem.head _)
          have hm1 := hsub (_, _) (by rw [hBl]; exact List.Mem.tail _ (List.Mem.head _))
          have hm2 := hsub (_, _) (by rw [hBl]; exact List.Mem.tail _ (List.Mem.tail _ (List.Mem.head _)))
          have hm3 := hsub (_, _) (by rw [hBl]; exact List.Mem.tail _ (List.Mem.tail _ (List.Mem.tail _ (List.Mem.head _))))
          have hm4 := hsub (_, _) (by rw [hBl]; exact List.Mem.tail _ (List.Mem.tail _ (List.Mem.tail _ (List.Mem.tail _ (List.Mem.head _)))))
          have hm5 := hsub (_, _) (by rw [hBl]; exact List.Mem.tail _ (List.Mem.tail _ (List.Mem.tail _ (List.Mem.tail _ (List.Mem.tail _ (List.Mem.head _))))))
          have hml := hsub _ (by rw [hBl]; exact List.Mem.tail _ (List.Mem.tail _ (List.Mem.tail _ (List.Mem.tail _ (List.Mem.tail _ (List.Mem.tail _ (hl)))))))
          unfold Spec
          intro dp2 un2 gd2 cn2 cs2 a2 ccd2 cl2 outer2 A2 base2 h20 L2 m2 s2 Q2 E2 B2 F2 X2 N2 Tp2 hk2 hd2 hu2 hret2
          refine wpAny_call ?_
          k_dflt (refine' code_nest ?k1 ?k2 ?k3 ?k4 ?k5 ?kA ?kF ?kK ?k6 ?k7 ?k8 ?k9 ?kB ?_ ?c2 ?c3 ?c4 ?c5; (case kA => exact rfl); (case kF => exact rfl); (case kK => assumption); (case k1 => k_asm); (case k2 => k_asm); (case k3 => k_asm); (case k4 => k_asm); (case k5 => k_asm); (case k6 => k_mem); (case k7 => exact codeRec_news (by k_asm) (by k_mem) (by assumption) (by assumption)); (case k8 => ktr_room); (case k9 => exact BindsTo.of_eq rfl); (case c5 => decide); (case kB => exact locs rfl); (case c2 => exact rfl); (case c3 => exact rfl); (case c4 => exact rfl); k_whole; intro g3 L3 h3 FG3 F3 N3 B3 X3 T3; (try dsimp only); (try k_lift B3); (try k_fold))
          have hmid : ((lo : Int) + hi) / 2 = (((lo + hi) / 2 : Nat) : Int) := by omega
          obtain ⟨mid, hmd⟩ : ∃ mid, mid = (lo + hi) / 2 := ⟨_, rfl⟩
          rw [← hmd] at hmid
          k_steps
          · have e : hi = lo + 1 := by omega
            subst e
            exact hret0 hret2 (by assumption) (by assumption) ⟨_, congrArg (fun z => Value.int z _) (dnum_one n.toNat (by omega)).symm, rfl⟩
          · refine Stop.in ?_
            rw [hmid]
            k_dflt (refine' spec_use (ih mid hi _ _ T2 (by omega) (by omega) (by omega) hsub) ?k1 ?k2 ?k3 ?k4 ?k5 ?kK ?kd ?ku ?_; (case k1 => k_asm); (case k2 => k_asm); (case k3 => k_asm); (case k4 => k_asm); (case k5 => k_asm); (case kK => exact rfl))
            case kd => ktr_room
            case ku => ktr_units
            rintro r new h4 tk4 F4 N4 _ ⟨t4, rfl, rfl⟩
            have hS : Small (dnum n.toNat (seg ds mid hi)) := dnum_seg_small (by omega) hlen.2 hdig
            have hsh : 0 ≤ (((lo : Int) + hi) / 2 - lo) * n ∧ (((lo : Int) + hi) / 2 - lo) * n ≤ 10000000 := shift_rng ⟨by omega, by omega⟩ hn
            replace N4 : News g3 L3 h4 T2 := N4
            k_steps
            refine Stop.in ?_
            rw [hmid]
            k_dflt (refine' spec_use (ih lo mid _ _ T2 (by omega) (by omega) (by omega) hsub) ?k1 ?k2 ?k3 ?k4 ?k5 ?kK ?kd ?ku ?_; (case k1 => k_asm); (case k2 => k_asm); (case k3 => k_asm); (case k4 => k_asm); (case k5 => k_asm); (case kK => exact rfl))
            case kd => ktr_room
            case ku => ktr_units
            rintro r new h5 tk5 F5 N5 _ ⟨t5, rfl, rfl⟩
            replace N5 : News g3 L3 h5 T2 := N5
            k_steps
            exact hret0 hret2 (by assumption) (by assumption) ⟨_, congrArg (fun z => Value.int z _) (dnum_join (by omega) (by omega) (by omega) (by assumption) rfl), rfl⟩
      rw [hvl]
      have inn := fun ta tb => inner ds.length 0 ds.length ta tb Bl (Nat.le_refl _) hlen.1 (Nat.le_refl _) (fun _ h => h)
      simp only [show ((0 : Nat) : Int) = 0 from rfl] at inn
      k_dflt (refine' spec_use (inn _ _) ?k1 ?k2 ?k3 ?k4 ?k5 ?kK ?kd ?ku ?_; (case k1 => k_asm); (case k2 => k_asm); (case k3 => k_asm); (case k4 => k_asm); (case k5 => k_asm); (case kK => exact rfl))
      case kd => ktr_room
      case ku => ktr_units
      rintro r new h5 tk5 F5 N5 _ ⟨t5, rfl, rfl⟩
      replace N5 : News g' L' h5 Bl := N5
      rw [hBl] at N5
      k_steps
      rename News h₀ L _ _ => NZ
      rename Fr h₀ L _ _ => FZ
      try simp only [Array.empty_append] at NZ
      obtain ⟨A', NA, hA⟩ := tab_exit (P := 37) (li := 47) (co := 4) (q := Str.ofString "_digits2int.<locals>.inner") (R := R) NZ (by repeat (first | exact List.Mem.head _ | apply List.Mem.tail)) (by repeat (first | exact List.Mem.head _ | apply List.Mem.tail)) (fun p hp => by repeat (first | exact hp | apply List.Mem.tail)) (by assumption) (by assumption)
      exact hret _ _ _ _ FZ NA ⟨_, _, by rw [seg_all], rfl, hA⟩
set_option exponentiation.threshold 6000 in
set_option maxHeartbeats 8000000 in
theorem d2i_in0 (w : World) (loose mean mg mb) (T R : Led) (hT : (T = (37, tabObj #[]) :: R ∧ ∀ p ∈ R, p.1 ≠ 37) ∨ ∃ c0 oc0 vs0 t0, T = (37, tabObj #[rawInt 47, rawInt 4, .ref c0]) :: (c0, oc0) :: R ∧ oc0.data = .fields vs0 ∧ vs0[1]? = some (.str (Str.ofString "_digits2int.<locals>.inner") t0)) (l : Addr) (vs : List Value) (k : Nat) (n : Int) (t2 : Tok) (hl : (l, listOf vs.toArray k) ∈ R) (hi : vs = []) (hn : 0 < n ∧ n < 5000)
   :
   SpecT PySem.Challenge.pw_wf0044_01 w (Mine.hd.heap_39 w.params) topProg loose mean mg mb 10 80 42 [.ref l, .int n t2] T (fun v T' => ∃ t A', v = .int 0 t ∧ T' = A' ++ R ∧ TabOk 37 47 4 (Str.ofString "_digits2int.<locals>.inner") A') := by
  have hvl : vs.length = 0 := by rw [hi]; rfl
  unfold SpecT
  intro dp un gd cn cs a ccd cl outer A₀ base h₀ L m s Q E B F X N Tp hk hd hu hret
  refine wpAny_call ?_
  have hk0 : (PySem.Challenge.rw_wf0044_01 = PySem.Challenge.rw_wf0044_01 ∧ Mine.hd.heap_39 = Mine.hd.heap_39) := by (k_fill; exact ⟨rfl, rfl⟩)
  clear hk0
  rcases hT with ⟨rfl, hR⟩ | ⟨c0, oc0, vs0, t0, rfl, hoc0, hvs0⟩
  ·
      k_dflt (refine' code_defC ?k1 ?k2 ?k3 ?k4 ?k5 ?kA ?kF ?kK ?k6 ?k7 ?k8 ?k9 ?kB ?kD ?_ ?c2 ?c3 ?c4; (case kA => exact rfl); (case kF => exact rfl); (case kK => assumption); (case k1 => k_asm); (case k2 => k_asm); (case k3 => k_asm); (case k4 => k_asm); (case k5 => k_asm); (case k6 => k_is); (case k7 => k_is); (case k8 => ktr_room); (case k9 => exact BindsTo.of_eq rfl); (case kB => exact rfl); (case kD => decide +kernel); (case c2 => exact rfl); (case c3 => exact rfl); (case c4 => exact rfl); k_whole; intro g' L' h' tk' cells' FG' F' N' Y' B' X' T' l1; (try k_lt l1); k_cells Y'; (try simp only [List.cons_append, List.nil_append] at N'); (try dsimp only); (try k_lift B'); (try k_fold))
      obtain ⟨l51, lR⟩ := l1
      have C : CodeHd g' 41 37 := codeHd_of_K X' (by kernel_rfl)
      k_steps
      rename News h₀ L _ _ => NZ
      rename Fr h₀ L _ _ => FZ
      try simp only [Array.empty_append] at NZ
      obtain ⟨A', NA, hA⟩ := tab_exit (P := 37) (li := 47) (co := 4) (q := Str.ofString "_digits2int.<locals>.inner") (R := R) NZ (by repeat (first | exact List.Mem.head _ | apply List.Mem.tail)) (by repeat (first | exact List.Mem.head _ | apply List.Mem.tail)) (fun p hp => by repeat (first | exact hp | apply List.Mem.tail)) (by assumption) (by assumption)
      exact hret _ _ _ _ FZ NA ⟨_, _, rfl, rfl, hA⟩
  ·
      k_dflt (refine' code_defC ?k1 ?k2 ?k3 ?k4 ?k5 ?kA ?kF ?kK ?k6 ?k7 ?k8 ?k9 ?kB ?kD ?_ ?c2 ?c3 ?c4; (case kA => exact rfl); (case kF => exact rfl); (case kK => assumption); (case k1 => k_asm); (case k2 => k_asm); (case k3 => k_asm); (case k4 => k_asm); (case k5 => k_asm); (case k6 => k_is); (case k7 => k_is); (case k8 => ktr_room); (case k9 => exact BindsTo.of_eq rfl); (case kB => exact rfl); (case kD => decide +kernel); (case c2 => exact rfl); (case c3 => exact rfl); (case c4 => exact rfl); k_whole; intro g' L' h' tk' cells' FG' F' N' Y' B' X' T' l1; (try k_lt l1); k_cells Y'; (try simp only [List.cons_append, List.nil_append] at N'); (try dsimp only); (try k_lift B'); (try k_fold))
      obtain ⟨l51, lR⟩ := l1
      have C : CodeHd g' 41 37 := codeHd_of_K X' (by kernel_rfl)
      k_steps
      rename News h₀ L _ _ => NZ
      rename Fr h₀ L _ _ => FZ
      try simp only [Array.empty_append] at NZ
      obtain ⟨A', NA, hA⟩ := tab_exit (P := 37) (li := 47) (co := 4) (q := Str.ofString "_digits2int.<locals>.inner") (R := R) NZ (by repeat (first | exact List.Mem.head _ | apply List.Mem.tail)) (by repeat (first | exact List.Mem.head _ | apply List.Mem.tail)) (fun p hp => by repeat (first | exact hp | apply List.Mem.tail)) (by assumption) (by assumption)
      exact hret _ _ _ _ FZ NA ⟨_, _, rfl, rfl, hA⟩
theorem d2i_spec (w : World) (loose mean mg mb) (R Tb : Led) (hT : Tabs 37 30 Tb) (hC : Cl R) (l : Addr) (vs : List Value) (ds : List Int) (k : Nat) (n : Int) (t2 : Tok) (hl : (l, listOf vs.toArray k) ∈ R) (hi : IntsAre vs ds) (hlen : ds.length < 200) (hn : 0 < n ∧ n < 5000) (hdig : ∀ d ∈ ds, d.natAbs < 2 ^ 5000) :
   SpecT PySem.Challenge.pw_wf0044_01 w (Mine.hd.heap_39 w.params) topProg loose mean mg mb 250 2000 42 [.ref l, .int n t2] (R ++ Tb) (fun v T' => (∃ t, v = .int (dnum n.toNat ds) t) ∧ ∃ Tb', T' = R ++ Tb' ∧ Tabs 37 30 Tb') := by
  refine SpecT.tabA hT hC (by decide) fun T R₀ hR h => ?_
  by_cases h0 : 0 < ds.length
  · refine ((d2i_in w loose mean mg mb T R₀ h l vs ds k n t2 (hR _ hl) hi ⟨h0, hlen⟩ hn hdig).room (by omega) (by omega)).post ?_
    rintro v T' ⟨t, A', h1, h2, h3⟩
    exact ⟨⟨t, h1⟩, A', h2, h3⟩
  · have e0 : ds = [] := List.length_eq_zero_iff.mp (by omega)
    subst e0
    have e1 : vs = [] := List.length_eq_zero_iff.mp hi.length
    refine ((d2i_in0 w loose mean mg mb T R₀ h l vs k n t2 (hR _ hl) e1 hn).room (by omega) (by omega)).post ?_
    rintro v T' ⟨t, A', h1, h2, h3⟩
    exact ⟨⟨t, h1⟩, A', h2, h3⟩
end Mine
end
section
open PySem PySem.W PyProof.Rows PySem.Calls
set_option maxRecDepth 100000
namespace Mine
local macro_rules | `(tactic| k_mem) => `(tactic| first | assumption | exact List.Mem.tail _ (by assumption))
local macro_rules | `(tactic| k_all) => `(tactic| first | assumption | (refine allNe_lt (by assumption) ?_; show @LE.le Nat _ _ _; omega))
local macro_rules | `(tactic| walk_at "call ref") => `(tactic| (k_here; refine Stop.mk ?_))
local macro_rules | `(tactic| walk_at "truthy ref") => `(tactic| (k_here; k_dflt (refine' truthy_lK ?k1 ?k2 ?k3 ?_; (case k1 => k_asm); (case k2 => k_mem)); (case k3 => (show _; omega)); k_whole))
local macro_rules | `(tactic| walk_at "call builtin:len") => `(tactic| (k_here; (with_reducible show wpAny _ _ (call (Value.builtin "len") [Value.ref _]) _ _ _); k_dflt (refine' len_lK ?k1 ?k2 ?k3 ?_; (case k1 => k_asm); (case k2 => k_mem)); (case k3 => (show _; omega)); k_whole; intro _))
local macro_rules | `(tactic| walk_at "binaryOp RShift int int") => `(tactic| (k_here; first | (with_reducible refine rshift1_K ?_) | (refine rshift_K (by assumption) ?_)))
local macro_rules | `(tactic| walk_at "binaryOp Mult ref int") => `(tactic| (k_here; k_dflt (refine' rep_K ?k1 ?k2 ?k3 ?k4 ?_; (case k1 => k_asm); (case k2 => k_asm); (case k3 => k_mem); (case k4 => assumption); k_whole); intro D' h' vs' F' N' l1 i1 n1; (try k_lt l1)))
local macro_rules | `(tactic| walk_at "setItem ref int") => `(tactic| (k_here; k_dflt (refine' set_lK ?k1 ?k2 ?k3 ?k4 ?_; (case k1 => k_asm); (case k2 => k_asm); (case k3 => k_upd); (case k4 => assumption); k_whole); intro h' F' N'; (try k_sweep)))
local macro_rules | `(tactic| walk_at "binaryOp Mult int int") => `(tactic| (k_here; refine mul_K (small_int (by omega)) (small_int (by omega)) ?_))
local macro_rules | `(tactic| walk_at "binaryOp LShift int int") => `(tactic| (k_here; refine lshift_K (by assumption) (by assumption) ?_))
set_option exponentiation.threshold 6000 in
set_option maxHeartbeats 8000000 in
theorem i2d_in (w : World) (loose mean mg mb) (T R : Led) (hT : (T = (30, tabObj #[]) :: R ∧ ∀ p ∈ R, p.1 ≠ 30) ∨ ∃ c0 oc0 vs0 t0, T = (30, tabObj #[rawInt 32, rawInt 4, .ref c0]) :: (c0, oc0) :: R ∧ oc0.data = .fields vs0 ∧ vs0[1]? = some (.str (Str.ofString "_int2digits.<locals>.inner") t0)) (n a0 : Int) (t1 t2 : Tok) (hn : 0 < n ∧ n < 5000) (ha : 0 ≤ a0) (hkf : figs n.toNat a0 < 200)
   :
   SpecT PySem.Challenge.pw_wf0044_01 w (Mine.hd.heap_39 w.params) topProg loose mean mg mb 250 2000 35 [.int a0 t1, .int n t2] T (fun v T' => ∃ D vs A', v = .ref D ∧ IntsAre vs (digs n.toNat (figs n.toNat a0) a0) ∧ T' = A' ++ ((D, listOf vs.toArray 0) :: R) ∧ TabOk 30 32 4 (Str.ofString "_int2digits.<locals>.inner") A' ∧ ∀ q ∈ R, q.1 < D) := by
  have hfd := figs_fdiv (a := a0) hn.1
  have hk9 : 0 ≤ ((Builtin.Int.intBits a0 : Int) + n - 1).fdiv n ∧ ((Builtin.Int.intBits a0 : Int) + n - 1).fdiv n < 1000000 := by omega
  unfold SpecT
  intro dp un gd cn cs a ccd cl outer A₀ base h₀ L m s Q E B F X N Tp hk hd hu hret
  refine wpAny_call ?_
  have hk0 : (PySem.Challenge.rw_wf0044_01 = PySem.Challenge.rw_wf0044_01 ∧ Mine.hd.heap_39 = Mine.hd.heap_39) := by (k_fill; exact ⟨rfl, rfl⟩)
  clear hk0
  rcases hT with ⟨rfl, hR⟩ | ⟨c0, oc0, vs0, t0, rfl, hoc0, hvs0⟩
  ·
      k_dflt (refine' code_defC ?k1 ?k2 ?k3 ?k4 ?k5 ?kA ?kF ?kK ?k6 ?k7 ?k8 ?k9 ?kB ?kD ?_ ?c2 ?c3 ?c4; (case kA => exact rfl); (case kF => exact rfl); (case kK => assumption); (case k1 => k_asm); (case k2 => k_asm); (case k3 => k_asm); (case k4 => k_asm); (case k5 => k_asm); (case k6 => k_is); (case k7 => k_is); (case k8 => ktr_room); (case k9 => exact BindsTo.of_eq rfl); (case kB => exact rfl); (case kD => decide +kernel); (case c2 => exact rfl); (case c3 => exact rfl); (case c4 => exact rfl); k_whole; intro g' L' h' tk' cells' FG' F' N' Y' B' X' T' l1; (try k_lt l1); k_cells Y'; (try simp only [List.cons_append, List.nil_append] at N'); (try dsimp only); (try k_lift B'); (try k_fold))
      obtain ⟨l44, lR⟩ := l1
      have C : CodeHd g' 34 30 := codeHd_of_K X' (by kernel_rfl)
      k_steps
      ·
        refine Stop.in ?_
        (rename News _ _ _ _ => Nn)
        rename IntsAre _ _ => hi0
        rename List.length _ = _ => hl0
        refine with_call fun f hff => ?_
        subst hff
        refine with_mem Nn (by repeat (first | exact List.Mem.head _ | apply List.Mem.tail)) fun D0 vl0 hD0 hvl0 => ?_
        subst hD0
        subst hvl0
        refine with_upd (d := D0) (o := listOf vl0.toArray 0) (o' := listOf vl0.toArray 0) Nn (by k_dflt k_upd) fun Bl R2 hBl hne hin NB => ?_
        try (have hm0 := hin (_, _) (by rw [hBl]; exact List.Mem.head _) (by k_ne))
        try (have hm1 := hin (_, _) (by rw [hBl]; exact List.Mem.tail _ (List.Mem.head _)) (by k_ne))
        try (have hm2 := hin (_, _) (by rw [hBl]; exact List.Mem.tail _ (List.Mem.tail _ (List.Mem.head _))) (by k_ne))
        try (have hm3 := hin (_, _) (by rw [hBl]; exact List.Mem.tail _ (List.Mem.tail _ (List.Mem.tail _ (List.Mem.head _)))) (by k_ne))
        try (have hm4 := hin (_, _) (by rw [hBl]; exact List.Mem.tail _ (List.Mem.tail _ (List.Mem.tail _ (List.Mem.tail _ (List.Mem.head _))))) (by k_ne))
        try (have hm5 := hin (_, _) (by rw [hBl]; exact List.Mem.tail _ (List.Mem.tail _ (List.Mem.tail _ (List.Mem.tail _ (List.Mem.tail _ (List.Mem.head _)))))) (by k_ne))
        try (have hm6 := hin (_, _) (by rw [hBl]; exact List.Mem.tail _ (List.Mem.tail _ (List.Mem.tail _ (List.Mem.tail _ (List.Mem.tail _ (List.Mem.tail _ (List.Mem.head _))))))) (by k_ne))
        try (have hm7 := hin (_, _) (by rw [hBl]; exact List.Mem.tail _ (List.Mem.tail _ (List.Mem.tail _ (List.Mem.tail _ (List.Mem.tail _ (List.Mem.tail _ (List.Mem.tail _ (List.Mem.head _)))))))) (by k_ne))
        have inner : ∀ (sz lo hi : Nat) (x : Int) (ta tb tc : Tok) (vl : List Value), hi - lo ≤ sz → lo < hi → hi ≤ vl.length → vl.length < 1000000 → 0 ≤ x ∧ x < 2 ^ (n.toNat * (hi - lo)) → (hi - lo < 200) → 
            SpecT PySem.Challenge.pw_wf0044_01 w (Mine.hd.heap_39 w.params) topProg loose mean mg mb (hi - lo + 3) (8 * (hi - lo) + 40) f [.int x tb, .int lo ta, .int hi tc] ((D0, listOf vl.toArray 0) :: R2)
              (fun v T' => v = .none ∧ ∃ ws, IntsAre ws (digs n.toNat (hi - lo) x) ∧ T' = (D0, listOf (vl.take lo ++ ws ++ vl.drop hi).toArray 0) :: R2) := by
          intro sz
          induction sz with
          | zero => intro lo hi x ta tb tc vl h1 h2; omega
          | succ sz ih =>
            intro lo hi x ta tb tc vl h1 h2 h3 h4 hx h5
            unfold SpecT
            intro dp2 un2 gd2 cn2 cs2 a2 ccd2 cl2 outer2 A2 base2 h20 L2 m2 s2 Q2 E2 B2 F2 X2 N2 Tp2 hk2 hd2 hu2 hret2
            refine wpAny_call ?_
            k_dflt (refine' code_nest ?k1 ?k2 ?k3 ?k4 ?k5 ?kA ?kF ?kK ?k6 ?k7 ?k8 ?k9 ?kB ?_ ?c2 ?c3 ?c4 ?c5; (case kA => exact rfl); (case kF => exact rfl); (case kK => assumption); (case k1 => k_asm); (case k2 => k_asm); (case k3 => k_asm); (case k4 => k_asm); (case k5 => k_asm); (case k6 => k_mem); (case k7 => exact codeRec_news (by k_asm) (by k_mem) (by assumption) (by assumption)); (case k8 => ktr_room); (case k9 => exact BindsTo.of_eq rfl); (case c5 => decide); (case kB => exact locs rfl); (case c2 => exact rfl); (case c3 => exact rfl); (case c4 => exact rfl); k_whole; intro g3 L3 h3 FG3 F3 N3 B3 X3 T3; (try dsimp only); (try k_lift B3); (try k_fold))
            have hmid : ((lo : Int) + hi) / 2 = (((lo + hi) / 2 : Nat) : Int) := by omega
            obtain ⟨mid, hmd⟩ : ∃ mid, mid = (lo + hi) / 2 := ⟨_, rfl⟩
            rw [← hmd] at hmid
            have hset : 0 ≤ (lo : Int) ∧ (lo : Int) < vl.length ∧ vl.length < 1000000 := ⟨by omega, by omega, h4⟩
            have hsn : (((mid : Int) - lo) * n).toNat = n.toNat * (mid - lo) := sh_nat (by omega) (by omega)
            have hsh0 : 0 ≤ (((lo : Int) + hi) / 2 - lo) * n := by rw [hmid]; exact Int.mul_nonneg (by omega) (by omega)
            have hsh : 0 ≤ (((lo : Int) + hi) / 2 - lo) * n ∧ (((lo : Int) + hi) / 2 - lo) * n ≤ 10000000 := shift_rng ⟨by omega, by omega⟩ hn
            have hS : Small (x / 2 ^ ((((lo : Int) + hi) / 2 - lo) * n).toNat) := digs_small hn hx h5
            k_steps
            · have e : hi = lo + 1 := by omega
              subst e
              rename News g3 L3 _ _ => NZ
              rename Fr h20 L2 _ _ => FZ
              rename News h20 L2 _ _ => NY
              refine hret2 _ _ _ _ FZ NY ⟨rfl, [.int x tb], ?_, ?_⟩
              · rw [show lo + 1 - lo = 1 from by omega] at hx ⊢
                rw [digs_one hx.1 (by rw [Nat.mul_one] at hx; exact hx.2)]
                exact IntsAre.cons x tb IntsAre.nil
              · rw [Int.toNat_natCast, put_one (by omega)]
            · refine Stop.in ?_
              rw [xor_low hx.1, hmid, hsn]
              k_dflt (refine' specT_use (ih lo mid (x % 2 ^ (n.toNat * (mid - lo))) _ _ _ vl (by omega) (by omega) (by omega) h4 lo_rng (by omega)) ?k1 ?k2 ?k3 ?k4 ?k5 ?kK ?ks ?kd ?ku ?_; (case k1 => k_asm); (case k2 => k_asm); (case k3 => k_asm); (case k4 => k_asm); (case k5 => k_asm); (case kK => exact rfl); (case ks => exact fun _ h => h))
              case kd => ktr_room
              case ku => ktr_units
              rintro r T4 h4 tk4 F4 N4 ⟨rfl, ws1, hw1, rfl⟩
              have hwl : ws1.length = mid - lo := by rw [hw1.length, digs_len]
              have hvl1 := put_len (vl := vl) (ws := ws1) (lo := lo) (hi := mid) (by omega) (by omega) hwl
              replace N4 : News g3 L3 h4 ((D0, listOf (vl.take lo ++ ws1 ++ vl.drop mid).toArray 0) :: R2) := N4
              k_steps
              refine Stop.in ?_
              rw [hmid, hsn]
              k_dflt (refine' specT_use (ih mid hi (x / 2 ^ (n.toNat * (mid - lo))) _ _ _ (vl.take lo ++ ws1 ++ vl.drop mid) (by omega) (by omega) (by omega) (by omega) (hi_rng (by omega) (by omega) hx) (by omega)) ?k1 ?k2 ?k3 ?k4 ?k5 ?kK ?ks ?kd ?ku ?_; (case k1 => k_asm); (case k2 => k_asm); (case k3 => k_asm); (case k4 => k_asm); (case k5 => k_asm); (case kK => exact rfl); (case ks => exact fun _ h => h))
              case kd => ktr_room
              case ku => ktr_units
              rintro r T5 h5 tk5 F5 N5 ⟨rfl, ws2, hw2, rfl⟩
              replace N5 : News g3 L3 h5 ((D0, listOf ((vl.take lo ++ ws1 ++ vl.drop mid).take mid ++ ws2 ++ (vl.take lo ++ ws1 ++ vl.drop mid).drop hi).toArray 0) :: R2) := N5
              k_steps
              rename Fr h20 L2 _ _ => FZ
              rename News h20 L2 _ _ => NY
              refine hret2 _ _ _ _ FZ NY ⟨rfl, ws1 ++ ws2, ?_, ?_⟩
              · rw [← digs_join (n := n.toNat) (x := x) (lo := lo) (mid := mid) (hi := hi) (by omega) (by omega)]
                exact IntsAre.append hw1 hw2
              · rw [put_join (by omega) (by omega) (by assumption) hwl]
        have hbig : 0 ≤ a0 ∧ a0 < 2 ^ (n.toNat * (vl0.length - 0)) := by
          refine ⟨ha, ?_⟩
          rw [Nat.sub_zero, hl0, hfd, Int.toNat_natCast]
          exact figs_big (by omega) ha
        have hvn : vl0.length = figs n.toNat a0 := by rw [hl0, hfd, Int.toNat_natCast]
        have hpos := figs_pos (n := n.toNat) (a := a0) (by omega) (by assumption)
        have inn := fun ta tb tc => inner vl0.length 0 vl0.length a0 ta tb tc vl0 (by omega) (by omega) (Nat.le_refl _) (by omega) hbig (by omega)
        simp only [show ((0 : Nat) : Int) = 0 from rfl] at inn
        k_dflt (refine' specT_use (inn _ _ _) ?k1 ?k2 ?k3 ?k4 ?k5 ?kK ?ks ?kd ?ku ?_; (case k1 => k_asm); (case k2 => k_asm); (case k3 => k_asm); (case k4 => k_asm); (case k5 => k_asm); (case kK => exact rfl); (case ks => exact fun _ h => h))
        case kd => ktr_room
        case ku => ktr_units
        rintro r T5 h5 tk5 F5 N5 ⟨rfl, ws, hw, rfl⟩
        replace N5 : News g' L' h5 ((D0, listOf ws.toArray 0) :: R2) := by
          rw [List.take_zero, List.nil_append, List.drop_length, List.append_nil] at N5
          exact N5
        k_steps
        rename Fr h₀ L _ _ => FZ
        rename News h₀ L _ _ => NY
        obtain ⟨A', NA, hA⟩ := tab_exit (P := 30) (li := 32) (co := 4) (q := Str.ofString "_int2digits.<locals>.inner") (R := (D0, listOf ws.toArray 0) :: R) NY (by k_mem) (by k_mem)
          (fun p hp => by
            rcases List.mem_cons.mp hp with rfl | hp
            · exact List.Mem.head _
            · exact List.Mem.tail _ (hin p (by rw [hBl]; repeat (first | exact hp | apply List.Mem.tail)) (allNe_lt lR (by show @LE.le Nat _ _ _; omega) p hp))) (by assumption) (by assumption)
        rw [Nat.sub_zero, hvn] at hw
        exact hret _ _ _ _ FZ NA ⟨_, ws, A', rfl, hw, rfl, hA, allLt_le lR (by show @LE.le Nat _ _ _; omega)⟩
      · rename IntsAre _ _ => hi0
        rename List.length _ = _ => hl0
        have e0 : a0 = 0 := by assumption
        subst e0
        rw [hfd, figs_zero (by omega)] at hl0
        rename Fr h₀ L _ _ => FZ
        rename News h₀ L _ _ => NY
        obtain ⟨A', NA, hA⟩ := tab_exit (P := 30) (li := 32) (co := 4) (q := Str.ofString "_int2digits.<locals>.inner") (R := (_, listOf (List.toArray _) 0) :: R) NY (by repeat (first | exact List.Mem.head _ | apply List.Mem.tail)) (by repeat (first | exact List.Mem.head _ | apply List.Mem.tail))
          (fun p hp => by
            rcases List.mem_cons.mp hp with rfl | hp
            · repeat (first | exact List.Mem.head _ | apply List.Mem.tail)
            · repeat (first | exact hp | apply List.Mem.tail)) (by assumption) (by assumption)
        refine hret _ _ _ _ FZ NA ⟨_, _, A', rfl, ?_, rfl, hA, allLt_le lR (by show @LE.le Nat _ _ _; omega)⟩
        have e1 := List.length_eq_zero_iff.mp hl0
        rw [e1, figs_zero (by omega)]
        exact IntsAre.nil
  ·
      k_dflt (refine' code_defC ?k1 ?k2 ?k3 ?k4 ?k5 ?kA ?kF ?kK ?k6 ?k7 ?k8 ?k9 ?kB ?kD ?_ ?c2 ?c3 ?c4; (case kA => exact rfl); (case kF => exact rfl); (case kK => assumption); (case k1 => k_asm); (case k2 => k_asm); (case k3 => k_asm); (case k4 => k_asm); (case k5 => k_asm); (case k6 => k_is); (case k7 => k_is); (case k8 => ktr_room); (case k9 => exact BindsTo.of_eq rfl); (case kB => exact rfl); (case kD => decide +kernel); (case c2 => exact rfl); (case c3 => exact rfl); (case c4 => exact rfl); k_whole; intro g' L' h' tk' cells' FG' F' N' Y' B' X' T' l1; (try k_lt l1); k_cells Y'; (try simp only [List.cons_append, List.nil_append] at N'); (try dsimp only); (try k_lift B'); (try k_fold))
      obtain ⟨l44, lc0, lR⟩ := l1
      have C : CodeHd g' 34 30 := codeHd_of_K X' (by kernel_rfl)
      k_steps
      ·
        refine Stop.in ?_
        (rename News _ _ _ _ => Nn)
        rename IntsAre _ _ => hi0
        rename List.length _ = _ => hl0
        refine with_call fun f hff => ?_
        subst hff
        refine with_mem Nn (by repeat (first | exact List.Mem.head _ | apply List.Mem.tail)) fun D0 vl0 hD0 hvl0 => ?_
        subst hD0
        subst hvl0
        refine with_upd (d := D0) (o := listOf vl0.toArray 0) (o' := listOf vl0.toArray 0) Nn (by k_dflt k_upd) fun Bl R2 hBl hne hin NB => ?_
        try (have hm0 := hin (_, _) (by rw [hBl]; exact List.Mem.head _) (by k_ne))
        try (have hm1 := hin (_, _) (by rw [hBl]; exact List.Mem.tail _ (List.Mem.head _)) (by k_ne))
        try (have hm2 := hin (_, _) (by rw [hBl]; exact List.Mem.tail _ (List.Mem.tail _ (List.Mem.head _))) (by k_ne))
        try (have hm3 := hin (_, _) (by rw [hBl]; exact List.Mem.tail _ (List.Mem.tail _ (List.Mem.tail _ (List.Mem.head _)))) (by k_ne))
        try (have hm4 := hin (_, _) (by rw [hBl]; exact List.Mem.tail _ (List.Mem.tail _ (List.Mem.tail _ (List.Mem.tail _ (List.Mem.head _))))) (by k_ne))
        try (have hm5 := hin (_, _) (by rw [hBl]; exact List.Mem.tail _ (List.Mem.tail _ (List.Mem.tail _ (List.Mem.tail _ (List.Mem.tail _ (List.Mem.head _)))))) (by k_ne))
        try (have hm6 := hin (_, _) (by rw [hBl]; exact List.Mem.tail _ (List.Mem.tail _ (List.Mem.tail _ (List.Mem.tail _ (List.Mem.tail _ (List.Mem.tail _ (List.Mem.head _))))))) (by k_ne))
        try (have hm7 := hin (_, _) (by rw [hBl]; exact List.Mem.tail _ (List.Mem.tail _ (List.Mem.tail _ (List.Mem.tail _ (List.Mem.tail _ (List.Mem.tail _ (List.Mem.tail _ (List.Mem.head _)))))))) (by k_ne))
        have inner : ∀ (sz lo hi : Nat) (x : Int) (ta tb tc : Tok) (vl : List Value), hi - lo ≤ sz → lo < hi → hi ≤ vl.length → vl.length < 1000000 → 0 ≤ x ∧ x < 2 ^ (n.toNat * (hi - lo)) → (hi - lo < 200) → 
            SpecT PySem.Challenge.pw_wf0044_01 w (Mine.hd.heap_39 w.params) topProg loose mean mg mb (hi - lo + 3) (8 * (hi - lo) + 40) f [.int x tb, .int lo ta, .int hi tc] ((D0, listOf vl.toArray 0) :: R2)
              (fun v T' => v = .none ∧ ∃ ws, IntsAre ws (digs n.toNat (hi - lo) x) ∧ T' = (D0, listOf (vl.take lo ++ ws ++ vl.drop hi).toArray 0) :: R2) := by
          intro sz
          induction sz with
          | zero => intro lo hi x ta tb tc vl h1 h2; omega
          | succ sz ih =>
            intro lo hi x ta tb tc vl h1 h2 h3 h4 hx h5
            unfold SpecT
            intro dp2 un2 gd2 cn2 cs2 a2 ccd2 cl2 outer2 A2 base2 h20 L2 m2 s2 Q2 E2 B2 F2 X2 N2 Tp2 hk2 hd2 hu2 hret2
            refine wpAny_call ?_
            k_dflt (refine' code_nest ?k1 ?k2 ?k3 ?k4 ?k5 ?kA ?kF ?kK ?k6 ?k7 ?k8 ?k9 ?kB ?_ ?c2 ?c3 ?c4 ?c5; (case kA => exact rfl); (case kF => exact rfl); (case kK => assumption); (case k1 => k_asm); (case k2 => k_asm); (case k3 => k_asm); (case k4 => k_asm); (case k5 => k_asm); (case k6 => k_mem); (case k7 => exact codeRec_news (by k_asm) (by k_mem) (by assumption) (by assumption)); (case k8 => ktr_room); (case k9 => exact BindsTo.of_eq rfl); (case c5 => decide); (case kB => exact locs rfl); (case c2 => exact rfl); (case c3 => exact rfl); (case c4 => exact rfl); k_whole; intro g3 L3 h3 FG3 F3 N3 B3 X3 T3; (try dsimp only); (try k_lift B3); (try k_fold))
            have hmid : ((lo : Int) + hi) / 2 = (((lo + hi) / 2 : Nat) : Int) := by omega
            obtain ⟨mid, hmd⟩ : ∃ mid, mid = (lo + hi) / 2 := ⟨_, rfl⟩
            rw [← hmd] at hmid
            have hset : 0 ≤ (lo : Int) ∧ (lo : Int) < vl.length ∧ vl.length < 1000000 := ⟨by omega, by omega, h4⟩
            have hsn : (((mid : Int) - lo) * n).toNat = n.toNat * (mid - lo) := sh_nat (by omega) (by omega)
            have hsh0 : 0 ≤ (((lo : Int) + hi) / 2 - lo) * n := by rw [hmid]; exact Int.mul_nonneg (by omega) (by omega)
            have hsh : 0 ≤ (((lo : Int) + hi) / 2 - lo) * n ∧ (((lo : Int) + hi) / 2 - lo) * n ≤ 10000000 := shift_rng ⟨by omega, by omega⟩ hn
            have hS : Small (x / 2 ^ ((((lo : Int) + hi) / 2 - lo) * n).toNat) := digs_small hn hx h5
            k_steps
            · have e : hi = lo + 1 := by omega
              subst e
              rename News g3 L3 _ _ => NZ
              rename Fr h20 L2 _ _ => FZ
              rename News h20 L2 _ _ => NY
              refine hret2 _ _ _ _ FZ NY ⟨rfl, [.int x tb], ?_, ?_⟩
              · rw [show lo + 1 - lo = 1 from by omega] at hx ⊢
                rw [digs_one hx.1 (by rw [Nat.mul_one] at hx; exact hx.2)]
                exact IntsAre.cons x tb IntsAre.nil
              · rw [Int.toNat_natCast, put_one (by omega)]
            · refine Stop.in ?_
              rw [xor_low hx.1, hmid, hsn]
              k_dflt (refine' specT_use (ih lo mid (x % 2 ^ (n.toNat * (mid - lo))) _ _ _ vl (by omega) (by omega) (by omega) h4 lo_rng (by omega)) ?k1 ?k2 ?k3 ?k4 ?k5 ?kK ?ks ?kd ?ku ?_; (case k1 => k_asm); (case k2 => k_asm); (case k3 => k_asm); (case k4 => k_asm); (case k5 => k_asm); (case kK => exact rfl); (case ks => exact fun _ h => h))
              case kd => ktr_room
              case ku => ktr_units
              rintro r T4 h4 tk4 F4 N4 ⟨rfl, ws1, hw1, rfl⟩
              have hwl : ws1.length = mid - lo := by rw [hw1.length, digs_len]
              have hvl1 := put_len (vl := vl) (ws := ws1) (lo := lo) (hi := mid) (by omega) (by omega) hwl
              replace N4 : News g3 L3 h4 ((D0, listOf (vl.take lo ++ ws1 ++ vl.drop mid).toArray 0) :: R2) := N4
              k_steps
              refine Stop.in ?_
              rw [hmid, hsn]
              k_dflt (refine' specT_use (ih mid hi (x / 2 ^ (n.toNat * (mid - lo))) _ _ _ (vl.take lo ++ ws1 ++ vl.drop mid) (by omega) (by omega) (by omega) (by omega) (hi_rng (by omega) (by omega) hx) (by omega)) ?k1 ?k2 ?k3 ?k4 ?k5 ?kK ?ks ?kd ?ku ?_; (case k1 => k_asm); (case k2 => k_asm); (case k3 => k_asm); (case k4 => k_asm); (case k5 => k_asm); (case kK => exact rfl); (case ks => exact fun _ h => h))
              case kd => ktr_room
              case ku => ktr_units
              rintro r T5 h5 tk5 F5 N5 ⟨rfl, ws2, hw2, rfl⟩
              replace N5 : News g3 L3 h5 ((D0, listOf ((vl.take lo ++ ws1 ++ vl.drop mid).take mid ++ ws2 ++ (vl.take lo ++ ws1 ++ vl.drop mid).drop hi).toArray 0) :: R2) := N5
              k_steps
              rename Fr h20 L2 _ _ => FZ
              rename News h20 L2 _ _ => NY
              refine hret2 _ _ _ _ FZ NY ⟨rfl, ws1 ++ ws2, ?_, ?_⟩
              · rw [← digs_join (n := n.toNat) (x := x) (lo := lo) (mid := mid) (hi := hi) (by omega) (by omega)]
                exact IntsAre.append hw1 hw2
              · rw [put_join (by omega) (by omega) (by assumption) hwl]
        have hbig : 0 ≤ a0 ∧ a0 < 2 ^ (n.toNat * (vl0.length - 0)) := by
          refine ⟨ha, ?_⟩
          rw [Nat.sub_zero, hl0, hfd, Int.toNat_natCast]
          exact figs_big (by omega) ha
        have hvn : vl0.length = figs n.toNat a0 := by rw [hl0, hfd, Int.toNat_natCast]
        have hpos := figs_pos (n := n.toNat) (a := a0) (by omega) (by assumption)
        have inn := fun ta tb tc => inner vl0.length 0 vl0.length a0 ta tb tc vl0 (by omega) (by omega) (Nat.le_refl _) (by omega) hbig (by omega)
        simp only [show ((0 : Nat) : Int) = 0 from rfl] at inn
        k_dflt (refine' specT_use (inn _ _ _) ?k1 ?k2 ?k3 ?k4 ?k5 ?kK ?ks ?kd ?ku ?_; (case k1 => k_asm); (case k2 => k_asm); (case k3 => k_asm); (case k4 => k_asm); (case k5 => k_asm); (case kK => exact rfl); (case ks => exact fun _ h => h))
        case kd => ktr_room
        case ku => ktr_units
        rintro r T5 h5 tk5 F5 N5 ⟨rfl, ws, hw, rfl⟩
        replace N5 : News g' L' h5 ((D0, listOf ws.toArray 0) :: R2) := by
          rw [List.take_zero, List.nil_append, List.drop_length, List.append_nil] at N5
          exact N5
        k_steps
        rename Fr h₀ L _ _ => FZ
        rename News h₀ L _ _ => NY
        obtain ⟨A', NA, hA⟩ := tab_exit (P := 30) (li := 32) (co := 4) (q := Str.ofString "_int2digits.<locals>.inner") (R := (D0, listOf ws.toArray 0) :: R) NY (by k_mem) (by k_mem)
          (fun p hp => by
            rcases List.mem_cons.mp hp with rfl | hp
            · exact List.Mem.head _
            · exact List.Mem.tail _ (hin p (by rw [hBl]; repeat (first | exact hp | apply List.Mem.tail)) (allNe_lt lR (by show @LE.le Nat _ _ _; omega) p hp))) (by assumption) (by assumption)
        rw [Nat.sub_zero, hvn] at hw
        exact hret _ _ _ _ FZ NA ⟨_, ws, A', rfl, hw, rfl, hA, allLt_le lR (by show @LE.le Nat _ _ _; omega)⟩
      · rename IntsAre _ _ => hi0
        rename List.length _ = _ => hl0
        have e0 : a0 = 0 := by assumption
        subst e0
        rw [hfd, figs_zero (by omega)] at hl0
        rename Fr h₀ L _ _ => FZ
        rename News h₀ L _ _ => NY
        obtain ⟨A', NA, hA⟩ := tab_exit (P := 30) (li := 32) (co := 4) (q := Str.ofString "_int2digits.<locals>.inner") (R := (_, listOf (List.toArray _) 0) :: R) NY (by repeat (first | exact List.Mem.head _ | apply List.Mem.tail)) (by repeat (first | exact List.Mem.head _ | apply List.Mem.tail))
          (fun p hp => by
            rcases List.mem_cons.mp hp with rfl | hp
            · repeat (first | exact List.Mem.head _ | apply List.Mem.tail)
            · repeat (first | exact hp | apply List.Mem.tail)) (by assumption) (by assumption)
        refine hret _ _ _ _ FZ NA ⟨_, _, A', rfl, ?_, rfl, hA, allLt_le lR (by show @LE.le Nat _ _ _; omega)⟩
        have e1 := List.length_eq_zero_iff.mp hl0
        rw [e1, figs_zero (by omega)]
        exact IntsAre.nil
theorem i2d_spec (w : World) (loose mean mg mb) (R Tb : Led) (hT : Tabs 37 30 Tb) (hC : Cl R) (n a0 : Int) (t1 t2 : Tok) (hn : 0 < n ∧ n < 5000) (ha : 0 ≤ a0) (hkf : figs n.toNat a0 < 200) :
   SpecT PySem.Challenge.pw_wf0044_01 w (Mine.hd.heap_39 w.params) topProg loose mean mg mb 250 2000 35 [.int a0 t1, .int n t2] (R ++ Tb) (fun v T' => ∃ D vs, v = .ref D ∧ IntsAre vs (digs n.toNat (figs n.toNat a0) a0) ∧ (∀ q ∈ R, q.1 < D) ∧ ∃ Tb', T' = (D, listOf vs.toArray 0) :: (R ++ Tb') ∧ Tabs 37 30 Tb') :=
  SpecT.tabB hT hC (by decide) fun T R₀ hR h => i2d_in w loose mean mg mb T R₀ h n a0 t1 t2 hn ha hkf
end Mine
end
section
open PySem PySem.W PyProof.Rows PySem.Calls
set_option maxRecDepth 100000
namespace Mine
local macro_rules | `(tactic| k_mem) => `(tactic| assumption)
local macro_rules | `(tactic| k_all) => `(tactic| first | assumption | (refine allNe_lt (by assumption) ?_; show @LE.le Nat _ _ _; omega))
local macro_rules | `(tactic| walk_at "call builtin:divmod") => `(tactic| (k_here; (with_reducible show wpAny _ _ (call (Value.builtin _) [Value.int _ _, Value.int _ _]) _ _ _); k_dflt (refine' divmod_K ?k1 ?k2 ?k3 ?k4 ?_; (case k1 => k_asm); (case k2 => k_asm); (case k3 => assumption); (case k4 => assumption); k_whole); intro D' h' t1' t2' tk' F' N' l1; (try k_lt l1); (try k_sweep)))
noncomputable def dmPost (x y : Int) (v : Value) (new : Led) : Prop := ∃ D u1 u2, v = .ref D ∧ new = [(D, tupObj [.int x u1, .int y u2])]
set_option exponentiation.threshold 6000 in
set_option maxHeartbeats 8000000 in
theorem d21_spec (w : World) (loose mean mg mb) (T : Led) (x y n : Int) (t1 t2 t3 : Tok) (hx : ((Builtin.Int.intBits x : Nat) : Int) - n ≤ 4000) (hy : 0 < y) (hys : y.natAbs < 2 ^ 5000) :
   Spec PySem.Challenge.pw_wf0044_01 w (Mine.hd.heap_39 w.params) topProg loose mean mg mb 5 20 21 [.int x t1, .int y t2, .int n t3] T (dmPost (x / y) (x % y)) := by
  unfold Spec
  intro dp un gd cn cs a ccd cl outer A₀ base h₀ L m s Q E B F X N Tp hk hd hu hret
  refine wpAny_call ?_
  have hk0 : (PySem.Challenge.rw_wf0044_01 = PySem.Challenge.rw_wf0044_01 ∧ Mine.hd.heap_39 = Mine.hd.heap_39) := by (k_fill; exact ⟨rfl, rfl⟩)
  clear hk0
  k_dflt ktr_enter
  k_steps
  exact hret1 hret (by assumption) (by assumption) (by assumption) ⟨_, _, _, rfl, rfl⟩
end Mine
end
section
open PySem PySem.W PyProof.Rows PySem.Calls
set_option maxRecDepth 100000
namespace Mine
local macro_rules | `(tactic| k_mem) => `(tactic| first | assumption | exact List.Mem.tail _ (by assumption))
local macro_rules | `(tactic| k_all) => `(tactic| first | assumption | (refine allNe_lt (by assumption) ?_; show @LE.le Nat _ _ _; omega))
local macro_rules | `(tactic| walk_at "call ref") => `(tactic| (k_here; refine Stop.mk ?_))
local macro_rules | `(tactic| walk_at "pyIter ref") => `(tactic| (k_here; refine Stop.mk ?_))
local macro_rules | `(tactic| walk_at "binaryOp LShift int int") => `(tactic| (k_here; refine lshift_K (by assumption) (by assumption) ?_))
local macro_rules | `(tactic| walk_at "call builtin:list.append") => `(tactic| (k_here; (with_reducible show wpAny _ _ (call (Value.builtin _) [Value.ref _, _]) _ _ _); k_dflt (refine' append_lK ?k1 ?k2 ?k3 ?k4 ?_; (case k1 => k_asm); (case k2 => k_asm); (case k3 => k_upd); (case k4 => assumption); k_whole); intro h' F' N'; (try k_sweep)))
local macro_rules | `(tactic| walk_at "call builtin:list.reverse") => `(tactic| (k_here; (with_reducible show wpAny _ _ (call (Value.builtin _) [Value.ref _]) _ _ _); k_dflt (refine' reverse_lK ?k1 ?k2 ?k3 ?k4 ?_; (case k1 => k_asm); (case k2 => k_asm); (case k3 => k_upd); (case k4 => assumption); k_whole); intro h' F' N'; (try k_sweep)))
set_option exponentiation.threshold 6000 in
set_option maxHeartbeats 8000000 in
theorem dmp_spec (w : World) (loose mean mg mb) (R Tb : Led) (hT : Tabs 37 30 Tb) (hC : Cl R) (x y : Int) (t1 t2 : Tok) (hx : 0 ≤ x) (hy : 0 < y) (hys : y.natAbs < 2 ^ 2000) (hkf : figs (Builtin.Int.intBits y) x < 200) :
   SpecT PySem.Challenge.pw_wf0044_01 w (Mine.hd.heap_39 w.params) topProg loose mean mg mb 300 2200 49 [.int x t1, .int y t2] (R ++ Tb) (fun v T' => ∃ D u1 u2 Tb', v = .ref D ∧ (∀ q ∈ R, q.1 < D) ∧ T' = (D, tupObj [.int (x / y) u1, .int (x % y) u2]) :: (R ++ Tb') ∧ Tabs 37 30 Tb') := by
  unfold SpecT
  intro dp un gd cn cs a ccd cl outer A₀ base h₀ L m s Q E B F X N Tp hk hd hu hret
  refine wpAny_call ?_
  have hk0 : (PySem.Challenge.rw_wf0044_01 = PySem.Challenge.rw_wf0044_01 ∧ Mine.hd.heap_39 = Mine.hd.heap_39) := by (k_fill; exact ⟨rfl, rfl⟩)
  clear hk0
  k_dflt ktr_enter
  k_steps
  refine Stop.in ?_
  have hb0 : 0 < Builtin.Int.intBits y := by
    unfold Builtin.Int.intBits
    rw [if_neg (by simp; omega)]
    omega
  have hb1 : Builtin.Int.intBits y ≤ 2000 := PySem.intBits_le_iff.mpr hys
  k_dflt (refine' specT_use (i2d_spec w loose mean mg mb R Tb hT hC _ x _ _ ⟨by omega, by omega⟩ hx (by rw [Int.toNat_natCast]; exact hkf)) ?k1 ?k2 ?k3 ?k4 ?k5 ?kK ?ks ?kd ?ku ?_; (case k1 => k_asm); (case k2 => k_asm); (case k3 => k_asm); (case k4 => k_asm); (case k5 => k_asm); (case kK => exact rfl); (case ks => exact fun _ h => h))
  case kd => ktr_room
  case ku => ktr_units
  rintro rv T4 h4 tk4 F4 N4 ⟨D, vs, rfl, hi, hlt, Tb', rfl, hT'⟩
  dsimp only at F4 N4
  obtain ⟨W, hW⟩ : ∃ W, W = R ++ Tb' := ⟨_, rfl⟩
  rw [← hW] at N4
  k_steps
  refine Stop.in ?_
  (rename News _ _ _ _ => Nn)
  (rename Fr _ _ _ _ => FF)
  have hvl := hi.length
  refine with_obj (listOf #[] 0) Nn (by repeat (first | exact List.Mem.head _ | apply List.Mem.tail)) fun D2 hD2 => ?_
  subst hD2
  refine with_fr FF fun m0 hm0 F0 => ?_
  rename _ ∧ AllLt D2 W => lD2
  obtain ⟨lD, lW⟩ := lD2
  refine iter_revJ (vs := vs) (k := 0) (J := fun rest m led => ∃ u rv tr qv kq dsL dsH, m = (fun z => if z = Str.ofString "r" then some (.int rv tr) else mapD [Str.ofString "r", Str.ofString "q_digit", Str.ofString "a_digit"] u m0 z) ∧ led = (D2, listOf (List.toArray qv) kq) :: (D, listOf vs.toArray 0) :: W ∧
      IntsAre rest.reverse dsL ∧ dsL ++ dsH = digs (Builtin.Int.intBits y) (figs (Builtin.Int.intBits y) x) x ∧ rv = (ldiv (Builtin.Int.intBits y) y dsH).2 ∧ IntsAre qv (ldiv (Builtin.Int.intBits y) y dsH).1.reverse)
     rfl F0 Nn ?_ ?_ ?_ ?_ ?_ ?_
  · k_dflt k_all
  · exact .tail _ (.head _)
  · rintro r m led ⟨u, rv, tr, qv, kq, dsL, dsH, rfl, rfl, _⟩
    exact .tail _ (.head _)
  · subst hm0
    rw [Int.toNat_natCast] at hi
    exact ⟨_, 0, _, [], 0, _, [], map_one rfl map_self, rfl, by rw [List.reverse_reverse]; exact hi, List.append_nil _, rfl, IntsAre.nil⟩
  · subst hm0
    rintro v r m1 led h tk it ⟨u, rv, tr, qv, kq, dsL, dsH, rfl, rfl, hL, hds, hrv, hqv⟩ hoI hic FT NT
    rw [List.reverse_cons] at hL
    obtain ⟨d, td, dsL', rfl, rfl, hL'⟩ := ints_snoc hL
    have hdr : ∀ z ∈ (dsL' ++ [d]) ++ dsH, 0 ≤ z ∧ z < 2 ^ Builtin.Int.intBits y := by rw [hds]; exact digs_rng _ _
    have hdd := hdr d (by simp)
    have hr := ldiv_rem (n := Builtin.Int.intBits y) hy dsH
    rw [← hrv] at hr
    have hyb := bits_lt hy
    have hS : Small rv := small_pow (k := 2000) (Nat.lt_of_lt_of_le (Int.natAbs_lt_natAbs_of_nonneg_of_lt hr.1 hr.2) (Nat.le_of_lt hys)) (by unfold big; omega)
    have hsh : 0 ≤ ((Builtin.Int.intBits y : Nat) : Int) ∧ ((Builtin.Int.intBits y : Nat) : Int) ≤ 10000000 := by omega
    have hsb := step_bits hb1 ⟨hr.1, by omega⟩ hdd
    k_steps
    refine Stop.in ?_
    have hys5 : y.natAbs < 2 ^ 5000 := Nat.lt_of_lt_of_le hys (Nat.pow_le_pow_right (by decide) (by decide))
    k_dflt (refine' spec_use (d21_spec w loose mean mg mb _ _ y _ _ _ _ (by rw [Int.toNat_natCast]; exact hsb) hy hys5) ?k1 ?k2 ?k3 ?k4 ?k5 ?kK ?kd ?ku ?_; (case k1 => k_asm); (case k2 => k_asm); (case k3 => k_asm); (case k4 => k_asm); (case k5 => k_asm); (case kK => exact rfl))
    case kd => ktr_room
    case ku => ktr_units
    rintro rv5 new5 h5 tk5 F5 N5 l5 ⟨Dt, u1, u2, rfl, rfl⟩
    dsimp only at F5 N5
    have hql : qv.length < 1000000 := by rw [hqv.length, List.length_reverse, ldiv_len]; have := congrArg List.length hds; rw [digs_len, List.length_append] at this; omega
    have ne2 : @Ne Nat D2 _ := hoI _ (.head _)
    have lt2 : @LT.lt Nat _ D2 Dt := l5 _ (.tail _ (.head _)) _ (.head _)
    k_steps
    rename Fr _ _ _ _ => FZ
    rename News _ _ _ _ => NZ
    refine TurnJ.fin1 FZ NZ ?_ ?_
    · intro p hp
      rcases List.mem_cons.mp hp with rfl | hp
      · exact ne2
      · exact hoI p (.tail _ hp)
    refine ⟨_, _, _, _, _, dsL', d :: dsH, map_one rfl (by repeat (first | exact map_base | refine map_peel (by decide) ?_)), rfl, ?_, ?_, ?_, ?_⟩
    · exact hL'
    · rw [← hds, List.append_assoc]; rfl
    · rw [ldiv, hrv, Int.toNat_natCast]
    · rw [ldiv, List.reverse_cons]
      refine hqv.append ?_
      rw [← hrv, Int.toNat_natCast]
      exact IntsAre.cons _ _ IntsAre.nil
  · subst hm0
    rintro m1 led h tk ⟨u, rv, tr, qv, kq, dsL, dsH, rfl, rfl, hL, hds, hrv, hqv⟩ FT NT
    have e0 : dsL = [] := by cases hL; rfl
    subst e0
    rw [List.nil_append] at hds
    have hql : qv.length < 1000000 := by rw [hqv.length, List.length_reverse, ldiv_len, hds, digs_len]; omega
    have hxb := figs_big (n := Builtin.Int.intBits y) hb0 hx
    have hval := ldiv_val (n := Builtin.Int.intBits y) hy dsH
    rw [hds, dnum_digs _ x ⟨hx, hxb⟩, ← hds] at hval
    k_steps
    refine Stop.in ?_
    have hqi := ints_rev hqv
    rw [List.reverse_reverse] at hqi
    have hdig : ∀ d ∈ (ldiv (Builtin.Int.intBits y) y dsH).1, d.natAbs < 2 ^ 5000 := fun d hd => by
      have h1 := ldiv_rng (n := Builtin.Int.intBits y) hy dsH (by rw [hds]; exact digs_rng _ _) d hd
      exact Nat.lt_of_lt_of_le (natAbs_lt_pow h1.1 h1.2) (Nat.pow_le_pow_right (by decide) (by omega))
    have hlen : (ldiv (Builtin.Int.intBits y) y dsH).1.length < 200 := by rw [ldiv_len, hds, digs_len]; exact hkf
    k_dflt (refine' specT_use (d2i_spec w loose mean mg mb ((D2, listOf qv.reverse.toArray kq) :: R) Tb' hT' (Cl.cons (by simp) hC) D2 _ _ kq _ _ (List.Mem.head _) hqi hlen ⟨by omega, by omega⟩ hdig) ?k1 ?k2 ?k3 ?k4 ?k5 ?kK ?ks ?kd ?ku ?_; (case k1 => k_asm); (case k2 => k_asm); (case k3 => k_asm); (case k4 => k_asm); (case k5 => k_asm); (case kK => exact rfl))
    case ks =>
      intro q hq
      rcases List.mem_cons.mp hq with rfl | hq
      · exact List.Mem.head _
      · exact List.Mem.tail _ (List.Mem.tail _ (by rw [hW]; exact hq))
    case kd => ktr_room
    case ku => ktr_units
    rintro rv6 T6 h6 tk6 F6 N6 ⟨⟨t6, rfl⟩, Tb6, rfl, hT6⟩
    dsimp only at F6 N6
    rw [Int.toNat_natCast, hval.1, hrv, hval.2] at *
    obtain ⟨W6, hW6⟩ : ∃ W6, W6 = (D2, listOf qv.reverse.toArray kq) :: R ++ Tb6 := ⟨_, rfl⟩
    rw [← hW6] at N6
    k_steps
    rename Fr h₀ L _ _ => FZ
    rename News h₀ L _ _ => NZ
    rename ∀ p ∈ W6, _ => l6
    have NQ := news_hd (T2 := R ++ Tb6) NZ (fun q hq => by rw [hW6]; exact List.Mem.tail _ hq)
    refine hret _ _ _ _ FZ NQ ⟨_, _, _, Tb6, rfl, ?_, rfl, hT6⟩
    intro q hq
    exact l6 q (by rw [hW6]; exact List.Mem.tail _ (List.mem_append_left _ hq))
end Mine
end
section
open PySem PySem.W PyProof.Rows PySem.Calls
set_option maxRecDepth 100000
namespace Mine
local macro_rules | `(tactic| k_mem) => `(tactic| first | assumption | exact List.Mem.tail _ (by assumption))
local macro_rules | `(tactic| walk_at "call ref") => `(tactic| (k_here; refine Stop.mk ?_))
noncomputable def dmT (P P' : Addr) (R : Led) (x y : Int) (v : Value) (T' : Led) : Prop := ∃ D u1 u2 Tb', v = .ref D ∧ (∀ q ∈ R, q.1 < D) ∧ T' = (D, tupObj [.int (x / y) u1, .int (x % y) u2]) :: (R ++ Tb') ∧ Tabs P P' Tb'
set_option exponentiation.threshold 6000 in
set_option maxHeartbeats 8000000 in
theorem idm_spec (w : World) (loose mean mg mb) (R Tb : Led) (hT : Tabs 37 30 Tb) (hC : Cl R) (x y : Int) (t1 t2 : Tok) (hx : 0 ≤ x) (hy : 0 < y) (hys : y.natAbs < 2 ^ 2000) (hkf : figs (Builtin.Int.intBits y) x < 200) :
   SpecT PySem.Challenge.pw_wf0044_01 w (Mine.hd.heap_39 w.params) topProg loose mean mg mb 310 2300 56 [.int x t1, .int y t2] (R ++ Tb) (dmT 37 30 R x y) := by
  unfold SpecT
  intro dp un gd cn cs a ccd cl outer A₀ base h₀ L m s Q E B F X N Tp hk hd hu hret
  refine wpAny_call ?_
  have hk0 : (PySem.Challenge.rw_wf0044_01 = PySem.Challenge.rw_wf0044_01 ∧ Mine.hd.heap_39 = Mine.hd.heap_39) := by (k_fill; exact ⟨rfl, rfl⟩)
  clear hk0
  k_dflt ktr_enter
  k_steps
  first | (· exfalso; omega) | skip
  refine Stop.in ?_
  k_dflt (refine' specT_use (dmp_spec w loose mean mg mb R Tb hT hC x y _ _ hx hy hys hkf) ?k1 ?k2 ?k3 ?k4 ?k5 ?kK ?ks ?kd ?ku ?_; (case k1 => k_asm); (case k2 => k_asm); (case k3 => k_asm); (case k4 => k_asm); (case k5 => k_asm); (case kK => exact rfl); (case ks => exact fun _ h => h))
  case kd => ktr_room
  case ku => ktr_units
  rintro rv6 T6 h6 tk6 F6 N6 ⟨D, u1, u2, Tb6, rfl, l6, rfl, hT6⟩
  dsimp only at F6 N6
  k_steps
  rename Fr h₀ L _ _ => FZ
  rename News h₀ L _ _ => NZ
  exact hret _ _ _ _ FZ NZ ⟨_, _, _, Tb6, rfl, l6, rfl, hT6⟩
end Mine
end
section
open PySem PySem.W PyProof.Rows PySem.Calls
open PyProof.Rows.LCg
set_option maxRecDepth 100000
set_option exponentiation.threshold 6000
namespace Mine
theorem dnum_lt {n : Nat} : ∀ {ds : List Int}, (∀ d ∈ ds, 0 ≤ d ∧ d < 2 ^ n) → 0 ≤ dnum n ds ∧ dnum n ds < 2 ^ (n * ds.length)
  | [], _ => by rw [dnum, List.length_nil, Nat.mul_zero, Int.pow_zero]; omega
  | d :: ds, h => by
    have ih := dnum_lt (n := n) (ds := ds) fun x hx => h x (.tail _ hx)
    have hd := h d (.head _)
    have hp : (0 : Int) < 2 ^ n := pow_pos2
    rw [dnum, List.length_cons, Nat.mul_succ, Nat.add_comm, Int.pow_add]
    generalize (2 : Int) ^ (n * ds.length) = P at *
    have h1 : 0 ≤ 2 ^ n * dnum n ds := Int.mul_nonneg (by omega) ih.1
    have h2 : 2 ^ n * dnum n ds ≤ 2 ^ n * (P - 1) := Int.mul_le_mul_of_nonneg_left (by omega) (by omega)
    rw [Int.mul_sub, Int.mul_one] at h2
    omega
theorem neints_F {prog : Program} {w : World} {A : Around} {E : Value → Shared → Prop} {s : Shared} {h₀ : Heap} {L : Addr} {news : Led} {l l' : Addr} {vs vs' : List Value} {ns ns' : List Int} {k k' : Nat} {Q : Value → Shared → Prop} (N : News h₀ L s.heap news) (hl : (l, listOf vs.toArray k) ∈ news) (hl' : (l', listOf vs'.toArray k') ∈ news) (hi : IntsAre vs ns) (hj : IntsAre vs' ns') (e : ns = ns') (hu : A.units + 64 < cLine) (h : Q (.bool false) s) :
    wpAny (model prog w) A (compareOp .NotEq (.ref l) (.ref l')) Q E s := neints_K N hl hl' hi hj hu (by rw [decide_eq_true e]; exact h)
local macro_rules | `(tactic| k_mem) => `(tactic| first | assumption | (apply List.Mem.tail; k_mem))
local macro_rules | `(tactic| k_all) => `(tactic| first | assumption | (refine allNe_lt (by assumption) ?_; show @LE.le Nat _ _ _; omega))
local macro_rules | `(tactic| walk_at "call ref") => `(tactic| (k_here; refine Stop.mk ?_))
local macro_rules | `(tactic| walk_at "call type:list") => `(tactic| (k_here; (with_reducible show wpAny _ _ (call (Value.type _) [Value.bytes _ _]) _ _ _); refine Stop.mk ?_))
local macro_rules | `(tactic| walk_at "compareOp NotEq ref ref") => `(tactic| (k_here; refine Stop.mk ?_))
local macro_rules | `(tactic| walk_at "subscriptTail Call Slice ref ref") => `(tactic| (k_here; refine Stop.mk ?_))
local macro_rules | `(tactic| walk_at "binaryOp Mult int int") => `(tactic| (k_here; first | refine mul_K (by assumption) (by assumption) ?_ | refine mul_K (small_int (by omega)) (small_int (by omega)) ?_))
local macro_rules | `(tactic| walk_at "call builtin:len") => `(tactic| (k_here; (with_reducible show wpAny _ _ (call (Value.builtin "len") [Value.ref _]) _ _ _); k_dflt (refine' len_lK ?k1 ?k2 ?k3 ?_; (case k1 => k_asm); (case k2 => k_mem)); (case k3 => (show _; omega)); k_whole; intro _))
local macro_rules | `(tactic| walk_at "binaryOp Mult ref int") => `(tactic| (k_here; k_dflt (refine' rep_K ?k1 ?k2 ?k3 ?k4 ?_; (case k1 => k_asm); (case k2 => k_asm); (case k3 => k_mem); (case k4 => assumption); k_whole); intro D' h' vs' F' N' l1 i1 n1; (try k_lt l1)))
local macro_rules | `(tactic| walk_at "binaryOp Add ref ref") => `(tactic| (k_here; k_dflt (refine' cat_K ?k1 ?k2 ?k3 ?k4 ?k5 ?_; (case k1 => k_asm); (case k2 => k_asm); (case k3 => k_mem); (case k4 => k_mem); (case k5 => (show _; omega)); k_whole); intro D' h' F' N' l1; (try k_lt l1); (try k_sweep)))
noncomputable def restPost (w p : Nat) (A B : List Int) (R : Led) (v : Value) (T' : Led) : Prop := ∃ D vs k Tb', v = .ref D ∧ IntsAre vs (restW w p A B) ∧ (∀ q ∈ R, q.1 ≠ D) ∧ T' = (D, listOf vs.toArray k) :: (R ++ Tb') ∧ Tabs 37 30 Tb'
set_option maxHeartbeats 8000000 in
theorem rest_spec (w : World) (loose mean mg mb) (R Tb : Led) (hT : Tabs 37 30 Tb) (hC : Cl R) (x y : Array UInt8) (t1 t2 t3 : Tok) (p : Nat) (n : Int) (A B : List Int) (hxa : PySem.W.KBw.bInts x = A) (hyb : PySem.W.KBw.bInts y = B) (hxs : x.size = p) (hys : y.size = p)
   (hA : ∀ d ∈ A, 0 ≤ d ∧ d < 64) (hB : ∀ d ∈ B, 0 ≤ d ∧ d < 64) (hp : 2 ≤ p ∧ p < 38) (hn : 6 ≤ n ∧ n < 14) (hok : wholeOk n.toNat p A B = true) :
   SpecT PySem.Challenge.pw_wf0044_01 w (Mine.hd.heap_39 w.params) topProg loose mean mg mb 330 2500 89 [.bytes x t1, .bytes y t2, .int n t3] (R ++ Tb) (restPost n.toNat p A B R) := by
  unfold SpecT
  intro dp un gd cn cs a ccd cl outer A₀ base h₀ L m s0 Q E BB F X N Tp hk hd hu hret
  refine wpAny_call ?_
  have hk0 : (PySem.Challenge.rw_wf0044_01 = PySem.Challenge.rw_wf0044_01 ∧ Mine.hd.heap_39 = Mine.hd.heap_39) := by (k_fill; exact ⟨rfl, rfl⟩)
  clear hk0
  have hAl : A.length = p := by rw [← hxa, PySem.W.KBw.ints_length, hxs]
  have hBl : B.length = p := by rw [← hyb, PySem.W.KBw.ints_length, hys]
  have hw6 : (64 : Int) ≤ 2 ^ n.toNat := by
    have := pow_le (show 6 ≤ n.toNat by omega)
    rw [show (2 : Int) ^ 6 = 64 by decide] at this
    exact this
  have hA2 := dnum_lt (n := n.toNat) (ds := A) fun d h => ⟨(hA d h).1, by have := (hA d h).2; omega⟩
  have hB2 := dnum_lt (n := n.toNat) (ds := B) fun d h => ⟨(hB d h).1, by have := (hB d h).2; omega⟩
  rw [hAl] at hA2
  rw [hBl] at hB2
  have hnp : n.toNat * p ≤ 13 * 37 := Nat.mul_le_mul (by omega) (by omega)
  have hpr := mul_lt2 hA2 hB2
  k_dflt ktr_enter
  k_steps
  refine Stop.in ?_
  refine list_bytes rfl (by assumption) (by assumption) (by omega) ?_
  intro D1 us1 c1 h1 tk1 F1 N1 l1 i1
  rw [hxa] at i1
  k_steps
  refine Stop.in ?_
  k_dflt (refine' specT_use (d2i_spec w loose mean mg mb ((D1, listOf (List.toArray us1) c1) :: R) Tb hT (Cl.cons (by simp) hC) D1 us1 A c1 n _ (.head _) i1 (by omega) (by omega) (fun d h => Nat.lt_of_lt_of_le (by have := hA d h; show d.natAbs < 2 ^ 6; omega) (Nat.pow_le_pow_right (by decide) (by decide)))) ?k1 ?k2 ?k3 ?k4 ?k5 ?kK ?ks ?kd ?ku ?_; (case k1 => k_asm); (case k2 => k_asm); (case k3 => k_asm); (case k4 => k_asm); (case k5 => k_asm); (case kK => exact rfl); (case ks => exact fun _ h => h))
  case kd => ktr_room
  case ku => ktr_units
  rintro rv2 T2 h2 tk2 F2 N2 ⟨⟨u2, rfl⟩, Tb2, rfl, hT2⟩
  replace N2 : News _ _ _ (R ++ Tb2) := news_tail N2
  have hs1 : Small (dnum n.toNat A) := small2 hA2 (by omega)
  have hs2 : Small (dnum n.toNat B) := small2 hB2 (by omega)
  k_steps
  refine Stop.in ?_
  refine list_bytes rfl (by assumption) (by assumption) (by omega) ?_
  intro D3 us3 c3 h3 tk3 F3 N3 l3 i3
  rw [hyb] at i3
  k_steps
  refine Stop.in ?_
  k_dflt (refine' specT_use (d2i_spec w loose mean mg mb ((D3, listOf (List.toArray us3) c3) :: R) Tb2 hT2 (Cl.cons (by simp) hC) D3 us3 B c3 n _ (.head _) i3 (by omega) (by omega) (fun d h => Nat.lt_of_lt_of_le (by have := hB d h; show d.natAbs < 2 ^ 6; omega) (Nat.pow_le_pow_right (by decide) (by decide)))) ?k1 ?k2 ?k3 ?k4 ?k5 ?kK ?ks ?kd ?ku ?_; (case k1 => k_asm); (case k2 => k_asm); (case k3 => k_asm); (case k4 => k_asm); (case k5 => k_asm); (case kK => exact rfl); (case ks => exact fun _ h => h))
  case kd => ktr_room
  case ku => ktr_units
  rintro rv4 T4 h4 tk4 F4 N4 ⟨⟨u4, rfl⟩, Tb4, rfl, hT4⟩
  replace N4 : News _ _ _ (R ++ Tb4) := news_tail N4
  have hnpi : 0 ≤ n * (A.length : Int) ∧ n * (A.length : Int) < 600 := by
    have h1 : n * (A.length : Int) = ((n.toNat * p : Nat) : Int) := by rw [hAl, Int.natCast_mul, Int.toNat_of_nonneg (by omega)]
    omega
  have hnpt : (n * (A.length : Int)).toNat = n.toNat * p := by
    have h1 : n * (A.length : Int) = ((n.toNat * p : Nat) : Int) := by rw [hAl, Int.natCast_mul, Int.toNat_of_nonneg (by omega)]
    omega
  k_steps
  refine Stop.in ?_
  have hPp : 0 < n.toNat * p := Nat.mul_pos (by omega) (by omega)
  have hy0 : (0 : Int) < 2 ^ (n * (A.length : Int)).toNat - 1 := by rw [hnpt]; exact pow1_pos hPp
  have hysm : (2 ^ (n * (A.length : Int)).toNat - 1 : Int).natAbs < 2 ^ 2000 := by rw [hnpt]; exact pow1_abs (by omega)
  have hkf : figs (Builtin.Int.intBits (2 ^ (n * (A.length : Int)).toNat - 1)) (dnum n.toNat A * dnum n.toNat B) < 200 := by
    rw [hnpt, bits_pow1 hPp]
    exact Nat.lt_of_le_of_lt (figs_small (m := 2) hPp (Nat.lt_of_lt_of_le (abs_lt hpr) (Nat.pow_le_pow_right (by decide) (by omega)))) (by omega)
  k_dflt (refine' specT_use (idm_spec w loose mean mg mb R Tb4 hT4 hC _ _ _ _ hpr.1 hy0 hysm hkf) ?k1 ?k2 ?k3 ?k4 ?k5 ?kK ?ks ?kd ?ku ?_; (case k1 => k_asm); (case k2 => k_asm); (case k3 => k_asm); (case k4 => k_asm); (case k5 => k_asm); (case kK => exact rfl); (case ks => exact fun _ h => h))
  case kd => ktr_room
  case ku => ktr_units
  rintro rv6 T6 h6 tk6 F6 N6 ⟨D6, u61, u62, Tb6, rfl, l6, rfl, hT6⟩
  (try dsimp only at F6 N6)
  obtain ⟨wh, hwh⟩ : ∃ z, z = dnum n.toNat A * dnum n.toNat B / (2 ^ (n * (A.length : Int)).toNat - 1) := ⟨_, rfl⟩
  obtain ⟨re, hre⟩ : ∃ z, z = dnum n.toNat A * dnum n.toNat B % (2 ^ (n * (A.length : Int)).toNat - 1) := ⟨_, rfl⟩
  simp only [← hwh, ← hre] at N6
  obtain ⟨pr, hprd⟩ : ∃ z, z = dnum n.toNat A * dnum n.toNat B := ⟨_, rfl⟩
  k_steps
  refine Stop.in ?_
  have hy1 : (1 : Int) ≤ 2 ^ (n * (A.length : Int)).toNat - 1 := by omega
  have hpr' : 0 ≤ pr ∧ pr < 2 ^ (n.toNat * (2 * p)) := by
    rw [hprd, show n.toNat * (2 * p) = n.toNat * p + n.toNat * p from by rw [Nat.mul_left_comm]; omega]
    exact hpr
  have hwh' : 0 ≤ wh ∧ wh < 2 ^ (n.toNat * (2 * p)) := by
    rw [hwh, ← hprd]
    exact ⟨Int.ediv_nonneg hpr'.1 (by omega), Int.lt_of_le_of_lt (Int.ediv_le_self _ hpr'.1) hpr'.2⟩
  have hre' : 0 ≤ re ∧ re < 2 ^ (n.toNat * p) := by
    rw [hre, hnpt]
    exact rem_pow1 hPp
  have hn0 : 0 < n.toNat := by omega
  have hfw := figs_small (n := n.toNat) (m := 2 * p) hn0 (abs_lt hwh')
  have hfp := figs_small (n := n.toNat) (m := 2 * p) hn0 (abs_lt hpr')
  have hfr := digs_figs (j := p) hn0 hre'.1 hre'.2
  simp only [wholeOk, Bool.and_eq_true, decide_eq_true_eq] at hok
  obtain ⟨hok1, hok2⟩ := hok
  rw [prodW, modW, ← hnpt, ← hwh, ← hprd] at hok2
  rw [prodW, ← hprd] at hok1
  k_dflt (refine' specT_use (i2d_spec w loose mean mg mb R Tb6 hT6 hC n wh _ _ (by omega) hwh'.1 (by omega)) ?k1 ?k2 ?k3 ?k4 ?k5 ?kK ?ks ?kd ?ku ?_; (case k1 => k_asm); (case k2 => k_asm); (case k3 => k_asm); (case k4 => k_asm); (case k5 => k_asm); (case kK => exact rfl); (case ks => exact fun _ h => .tail _ h))
  case kd => ktr_room
  case ku => ktr_units
  rintro rv7 T7 h7 tk7 F7 N7 ⟨D7, vs7, rfl, i7, l7, Tb7, rfl, hT7⟩
  k_steps
  refine Stop.in ?_
  rw [← hprd]
  k_dflt (refine' specT_use (i2d_spec w loose mean mg mb ((D7, listOf (List.toArray vs7) 0) :: R) Tb7 hT7 (Cl.cons (by simp) hC) n pr _ _ (by omega) hpr'.1 (by omega)) ?k1 ?k2 ?k3 ?k4 ?k5 ?kK ?ks ?kd ?ku ?_; (case k1 => k_asm); (case k2 => k_asm); (case k3 => k_asm); (case k4 => k_asm); (case k5 => k_asm); (case kK => exact rfl); (case ks => exact fun _ h => h))
  case kd => ktr_room
  case ku => ktr_units
  rintro rv8 T8 h8 tk8 F8 N8 ⟨D8, vs8, rfl, i8, l8, Tb8, rfl, hT8⟩
  have hl8 : vs8.length = figs n.toNat pr := by rw [i8.length, len_figs]
  k_steps
  refine Stop.in ?_
  rename IntsAre _ (List.drop _ _) => iD
  rename News _ _ _ _ => ND
  refine neints_F ND (.tail _ (.tail _ (.head _))) (.head _) i7 iD (by rw [Int.toNat_natCast, hAl]; exact hok2) (by ke_room) ?_
  k_steps
  refine Stop.in ?_
  rename Fr _ _ _ _ => FE
  rename News _ _ _ _ => NE
  replace NE : News _ _ _ (R ++ Tb8) := news_tail (news_tail (news_tail NE))
  k_dflt (refine' specT_use (i2d_spec w loose mean mg mb R Tb8 hT8 hC n re _ _ (by omega) hre'.1 (by omega)) ?k1 ?k2 ?k3 ?k4 ?k5 ?kK ?ks ?kd ?ku ?_; (case k1 => k_asm); (case k2 => k_asm); (case k3 => k_asm); (case k4 => k_asm); (case k5 => k_asm); (case kK => exact rfl); (case ks => exact fun _ h => h))
  case kd => ktr_room
  case ku => ktr_units
  rintro rv9 T9 h9 tk9 F9 N9 ⟨D9, vs9, rfl, i9, l9, Tb9, rfl, hT9⟩
  have hl9 : vs9.length = figs n.toNat re := by rw [i9.length, len_figs]
  have hrep : 0 ≤ (A.length : Int) - (vs9.length : Int) ∧ (A.length : Int) - (vs9.length : Int) < 1000000 := by omega
  k_steps
  rename Fr h₀ L _ _ => FZ
  rename News h₀ L _ _ => NZ
  rename IntsAre _ (List.replicate _ 0) => iz
  refine hret _ _ _ _ FZ (news_hd NZ fun q hq => .tail _ (.tail _ (.tail _ hq))) ⟨_, _, 0, Tb9, rfl, ?_, ?_, rfl, hT9⟩
  · rw [restW, prodW, modW, ← hnpt, ← hre, ← hfr.2, show p - figs n.toNat re = ((A.length : Int) - (vs9.length : Int)).toNat from by omega]
    exact i9.append iz
  · intro q hq
    rename _ ∧ _ ∧ _ ∧ AllLt _ (R ++ Tb9) => lZ
    exact allLt_neOf lZ.2.2.2 q (List.mem_append_left _ hq)
end Mine
end
section
open PySem PySem.W PyProof.Rows PySem.Calls
open PyProof.Rows.LCg
set_option maxRecDepth 100000
namespace Mine
noncomputable def toldF (fs hs : List Int) (own third : Int) (j : Nat) : Option Int := if (hs.getD (j + 1) 0 - own) % 3 = third then some (fs.getD (j + 1) 0) else none
noncomputable def toldN (fs hs : List Int) (own third : Int) (i : Nat) : List Int := (List.range i).filterMap (toldF fs hs own third)
theorem toldN_yes {fs hs : List Int} {own third : Int} {i : Nat} (h : (hs.getD (i + 1) 0 - own) % 3 = third) : toldN fs hs own third (i + 1) = toldN fs hs own third i ++ [fs.getD (i + 1) 0] := by
  unfold toldN
  rw [List.range_succ, List.filterMap_append, List.filterMap_cons, toldF, if_pos h]
  rfl
theorem toldN_no {fs hs : List Int} {own third : Int} {i : Nat} (h : (hs.getD (i + 1) 0 - own) % 3 ≠ third) : toldN fs hs own third (i + 1) = toldN fs hs own third i := by
  unfold toldN
  rw [List.range_succ, List.filterMap_append, List.filterMap_cons, toldF, if_neg h, List.filterMap_nil, List.append_nil]
theorem toldP_eq {fs hs : List Int} {own third : Int} : toldP fs hs own third = toldN fs hs own third (hs.length - 1) := rfl
theorem toldN_len {fs hs : List Int} {own third : Int} {i : Nat} : (toldN fs hs own third i).length ≤ i := by
  unfold toldN
  exact Nat.le_trans (List.length_filterMap_le _ _) (by rw [List.length_range]; exact Nat.le_refl _)
theorem int_at {vs : List Value} {ns : List Int} (h : IntsAre vs ns) {i : Nat} (hi : i < ns.length) : ∃ t, vs[i]? = some (.int (ns.getD i 0) t) := by
  have hv : i < vs.length := by rw [h.length]; exact hi
  obtain ⟨t, e⟩ := h.int_at i _ (List.getElem?_eq_getElem hv)
  exact ⟨t, by rw [List.getElem?_eq_getElem hv, e]⟩
theorem minC {prog : Program} {w : World} {A : Around} {E : Value → Shared → Prop} {s : Shared} {h₀ : Heap} {L l : Addr} {m : Str → Option Value} {news : Led} {vs : List Value} {ns : List Int} {k : Nat} {c : Int} {Q : Value → Shared → Prop} (F : Fr h₀ L s.heap m) (N : News h₀ L s.heap news) (hl : (l, listOf vs.toArray k) ∈ news) (hi : IntsAre vs ns) (hne : 0 < ns.length) (hc : ∀ x ∈ ns, x = c) (hh : A.handled = none)
    (h : ∀ h' (t : Tok) tk, Fr h₀ L h' m → News h₀ L h' news → Q (.int c t) { s with heap := h', toks := tk }) : wpAny (model prog w) A (call (.builtin "min") [.ref l]) Q E s :=
  kso_min F N (PySem.IsL.isList (n := k) (N _ hl).1) hi hne hh fun h' M t tk F' N' a _ => by rw [hc M a]; exact h h' t tk F' N'
theorem maxC {prog : Program} {w : World} {A : Around} {E : Value → Shared → Prop} {s : Shared} {h₀ : Heap} {L l : Addr} {m : Str → Option Value} {news : Led} {vs : List Value} {ns : List Int} {k : Nat} {c : Int} {Q : Value → Shared → Prop} (F : Fr h₀ L s.heap m) (N : News h₀ L s.heap news) (hl : (l, listOf vs.toArray k) ∈ news) (hi : IntsAre vs ns) (hne : 0 < ns.length) (hc : ∀ x ∈ ns, x = c) (hh : A.handled = none)
    (h : ∀ h' (t : Tok) tk, Fr h₀ L h' m → News h₀ L h' news → Q (.int c t) { s with heap := h', toks := tk }) : wpAny (model prog w) A (call (.builtin "max") [.ref l]) Q E s :=
  kso_max F N (PySem.IsL.isList (n := k) (N _ hl).1) hi hne hh fun h' M t tk F' N' a _ => by rw [hc M a]; exact h h' t tk F' N'
theorem range_size11 {n : Int} {q : Nat} (h : n = (q : Int) + 1) : Builtin.Range.rangeSize 1 n 1 = (q : Int) := by
  subst h
  unfold Builtin.Range.rangeSize
  simp
  omega
local macro_rules | `(tactic| k_mem) => `(tactic| first | assumption | (apply List.Mem.tail; k_mem))
local macro_rules | `(tactic| k_all) => `(tactic| first | assumption | (refine allNe_lt (by assumption) ?_; show @LE.le Nat _ _ _; omega))
local macro_rules | `(tactic| walk_at "pyIter ref") => `(tactic| (k_here; refine Stop.mk ?_))
local macro_rules | `(tactic| walk_at "call builtin:min") => `(tactic| (k_here; refine Stop.mk ?_))
local macro_rules | `(tactic| walk_at "call builtin:max") => `(tactic| (k_here; refine Stop.mk ?_))
local macro_rules | `(tactic| walk_at "compareOp Eq ref ref") => `(tactic| (k_here; refine Stop.mk ?_))
local macro_rules | `(tactic| walk_at "exec For Name Call cons nil") => `(tactic| (k_here; k_dflt (refine For_J (by k_asm) (by rfl) (by rfl) ?_ (by with_unfolding_all passes_own))))
local macro_rules | `(tactic| walk_at "subscriptTail") => `(tactic| (k_here; refine Stop.mk ?_))
local macro_rules | `(tactic| walk_at "subscriptTail Name Name ref int") => `(tactic| (k_here; refine Stop.mk ?_))
local macro_rules | `(tactic| walk_at "subscriptTail Name Constant ref int") => `(tactic| (k_here; refine Stop.mk ?_))
local macro_rules | `(tactic| walk_at "call builtin:len") => `(tactic| (k_here; (with_reducible show wpAny _ _ (call (Value.builtin "len") [Value.ref _]) _ _ _); k_dflt (refine' len_lK ?k1 ?k2 ?k3 ?_; (case k1 => k_asm); (case k2 => k_mem)); (case k3 => (show _; omega)); k_whole; intro _))
local macro_rules | `(tactic| walk_at "call builtin:list.append") => `(tactic| (k_here; (with_reducible show wpAny _ _ (call (Value.builtin _) [Value.ref _, _]) _ _ _); k_dflt (refine' append_lK ?k1 ?k2 ?k3 ?k4 ?_; (case k1 => k_asm); (case k2 => k_asm); (case k3 => k_upd); (case k4 => assumption); k_whole); intro h' F' N'; (try k_sweep)))
noncomputable def partsPost (ns : List Int) (T : Led) (v : Value) (T' : Led) : Prop := ∃ D ws k, v = .ref D ∧ T' = (D, listOf (List.toArray ws) k) :: T ∧ (∀ q ∈ T, q.1 ≠ D) ∧ IntsAre ws ns
set_option maxHeartbeats 8000000 in
theorem parts_spec (w : World) (loose mean mg mb) (T : Led) (D1 D2 : Addr) (k1 k2 : Nat) (fv hv : List Value) (fs hs : List Int) (own : Int) (t3 : Tok) (P : Int → Int) (h1 : (D1, listOf fv.toArray k1) ∈ T) (h2 : (D2, listOf hv.toArray k2) ∈ T) (hf : IntsAre fv fs) (hh : IntsAre hv hs)
    (hl : fs.length = hs.length) (hp : 2 ≤ hs.length ∧ hs.length < 38) (hok : ∀ t : Int, 0 ≤ t ∧ t < 3 → toldP fs hs own t ≠ [] ∧ ∀ x ∈ toldP fs hs own t, x = P t) :
   SpecT PySem.Challenge.pw_wf0044_01 w (Mine.hd.heap_39 w.params) topProg loose mean mg mb 15 80 96 [.ref D1, .ref D2, .int own t3] T (partsPost [P 0, P 1, P 2] T) := by
  have hfl := hf.length
  have hhl := hh.length
  unfold SpecT
  intro dp un gd cn cs a ccd cl outer A₀ base h₀ L m s0 Q E B F X N Tp hk hd hu hret
  refine wpAny_call ?_
  have hk0 : (PySem.Challenge.rw_wf0044_01 = PySem.Challenge.rw_wf0044_01 ∧ Mine.hd.heap_39 = Mine.hd.heap_39) := by (k_fill; exact ⟨rfl, rfl⟩)
  clear hk0
  k_dflt ktr_enter
  k_steps
  refine Stop.in ?_
  (rename News _ _ _ _ => Nn)
  (rename Fr _ _ _ _ => FF)
  rename ∀ p ∈ T, _ => lT
  refine with_fr FF fun m0 hm0 F0 => ?_
  refine name1 Nn fun Dp hDp => ?_
  subst hDp
  have hTp : ∀ q ∈ T, q.1 ≠ Dp := fun q hq => Nat.ne_of_lt (lT q hq)
  refine iter_rangeJ (n := 3) (J := fun i m led => ∃ u ws k, m = mapD [Str.ofString "third", Str.ofString "told", Str.ofString "place"] u m0 ∧ led = (Dp, listOf (List.toArray ws) k) :: T ∧ IntsAre ws ((List.range i).map fun (j : Nat) => P (j : Int)))
     rfl (by assumption) (by decide +kernel) (by decide +kernel) F0 Nn ?_ ?_ ?_
  · subst hm0
    exact ⟨_, [], 0, mapD_self, rfl, .nil⟩
  · subst hm0
    rintro I i t' m1 led h tk it hi ⟨u, ws, k, rfl, rfl, hws⟩ hoI _ hic FT NT
    have hwl : ws.length < 1000000 := by rw [hws.length, List.length_map, List.length_range]; omega
    obtain ⟨hok1, hok2⟩ := hok (i : Int) (by omega)
    k_steps
    refine Stop.in ?_
    (rename News _ _ _ _ => Nn2)
    (rename Fr _ _ _ _ => FF2)
    refine with_fr FF2 fun m2 hm2 F2 => ?_
    refine name1 Nn2 fun Dt hDt => ?_
    subst hDt
    have hne2 : ∀ q ∈ (I, it) :: (Dp, listOf (List.toArray ws) k) :: T, q.1 ≠ Dt := by
      rename I < Dt ∧ Dp < Dt ∧ AllLt Dt T => lD
      intro q hq
      rcases List.mem_cons.mp hq with rfl | hq
      · exact Nat.ne_of_lt lD.1
      rcases List.mem_cons.mp hq with rfl | hq
      · exact Nat.ne_of_lt lD.2.1
      exact allLt_neOf lD.2.2 q hq
    have hqn : (hv.length : Int) = ((hs.length - 1 : Nat) : Int) + 1 := by omega
    refine iter_rangeJ (n := hs.length - 1) (J := fun i' m led => ∃ u ws' k', m = mapD [Str.ofString "place"] u m2 ∧ led = (Dt, listOf (List.toArray ws') k') :: (I, it) :: (Dp, listOf (List.toArray ws) k) :: T ∧ IntsAre ws' (toldN fs hs own (i : Int) i'))
       rfl (by assumption) (range_small' ⟨by omega, by omega⟩ ⟨by omega, by omega⟩ ⟨by omega, by omega⟩) (range_size11 hqn) F2 Nn2 ?_ ?_ ?_
    · subst hm2
      exact ⟨_, [], 0, mapD_self, rfl, .nil⟩
    · subst hm2
      rintro I2 i2 t2 m3 led3 h3 tk3 it3 hi3 ⟨u3, ws3, k3, rfl, rfl, hws3⟩ hoI3 _ hic3 FT3 NT3
      have hw3 : ws3.length < 1000000 := by
        rw [hws3.length]
        exact Nat.lt_of_le_of_lt toldN_len (by omega)
      have e1 : (1 + (i2 : Int) * 1).toNat = i2 + 1 := by omega
      have r1 : 0 ≤ 1 + (i2 : Int) * 1 ∧ 1 + (i2 : Int) * 1 < 1000000 := by omega
      obtain ⟨ta, ha⟩ := int_at hh (i := (1 + (i2 : Int) * 1).toNat) (by omega)
      obtain ⟨tb, hb⟩ := int_at hf (i := (1 + (i2 : Int) * 1).toNat) (by omega)
      k_steps
      refine Stop.in ?_
      refine item_lK (by k_asm) (k := k2) (vs := hv) (.tail _ (.tail _ (.tail _ (.tail _ h2)))) r1 ha ?_
      k_steps
      · refine Stop.in ?_
        refine item_lK (by k_asm) (k := k1) (vs := fv) (.tail _ (.tail _ (.tail _ (.tail _ h1)))) r1 hb ?_
        have hcnd : (hs.getD (1 + (i2 : Int) * 1).toNat 0 - own).fmod 3 = 0 + (i : Int) * 1 := by with_reducible assumption
        rw [Int.fmod_eq_emod_of_nonneg _ (by decide), e1, show (0 : Int) + (i : Int) * 1 = i from by omega] at hcnd
        have n1 : @Ne Nat I2 Dt := Ne.symm (hoI3 (Dt, _) (.head _))
        k_steps
        rename Fr _ _ _ _ => FZ
        rename News _ _ _ _ => NZ
        refine TurnJ.fin FZ NZ ((Dt, listOf (List.toArray (ws3 ++ [Value.int (fs.getD (1 + (i2 : Int) * 1).toNat 0) tb])) (k3 + 1)) :: (I, it) :: (Dp, listOf (List.toArray ws) k) :: T) ?_ ?_ ⟨_, _, _, mapD_of (by repeat (first | exact map_base | refine map_peel (by decide) ?_)), rfl, ?_⟩
        · intro q hq
          simp only [List.mem_cons] at hq ⊢
          rcases hq with hq | hq | hq <;> simp [hq]
        · intro q hq
          rcases List.mem_cons.mp hq with rfl | hq
          · exact Ne.symm n1
          · exact hoI3 q (.tail _ hq)
        · rw [toldN_yes hcnd, e1]
          exact hws3.append (.cons _ _ .nil)
      · have hcnd : (hs.getD (1 + (i2 : Int) * 1).toNat 0 - own).fmod 3 ≠ 0 + (i : Int) * 1 := by with_reducible assumption
        rw [Int.fmod_eq_emod_of_nonneg _ (by decide), e1, show (0 : Int) + (i : Int) * 1 = i from by omega] at hcnd
        rename Fr _ _ _ _ => FZ
        rename News _ _ _ _ => NZ
        refine TurnJ.fin0 FZ NZ hoI3 ⟨_, ws3, k3, mapD_of (by repeat (first | exact map_base | refine map_peel (by decide) ?_)), rfl, ?_⟩
        rw [toldN_no hcnd]
        exact hws3
    · subst hm2
      rintro m3 led3 h3 tk3 ⟨u3, ws3, k3, rfl, rfl, hws3⟩ FT3 NT3
      rw [← toldP_eq] at hws3
      have hne3 : 0 < (toldP fs hs own (i : Int)).length := List.length_pos_iff.mpr hok1
      k_steps
      refine Stop.in ?_
      rename News _ _ _ _ => NE
      refine eqints_K NE (vs' := []) (k' := 0) (.tail _ (.head _)) (.head _) hws3 .nil (by ke_room) ?_
      rw [decide_eq_false hok1]
      k_steps
      refine Stop.in ?_
      rename Fr _ _ _ _ => FE
      rename News _ _ _ _ => NE
      refine minC FE NE (.tail _ (.head _)) hws3 hne3 hok2 rfl fun h' t' tk' F' N' => ?_
      k_steps
      refine Stop.in ?_
      refine maxC F' N' (.tail _ (.head _)) hws3 hne3 hok2 rfl fun h' t' tk' F' N' => ?_
      k_steps
      first | (· exact absurd rfl (by assumption)) | skip
      refine Stop.in ?_
      obtain ⟨tz, hz⟩ := int_at hws3 (i := (0 : Int).toNat) hne3
      rename News _ _ _ _ => NE
      refine item_lK (by k_asm) (k := k3) (vs := ws3) (.tail _ (.head _)) ⟨by decide, by decide⟩ hz ?_
      have ez : (toldP fs hs own (i : Int)).getD (0 : Int).toNat 0 = P i := by
        refine hok2 _ ?_
        exact kso_getD (i := 0) hne3
      rw [ez]
      have n1 : @Ne Nat I Dp := Ne.symm (hoI (Dp, _) (.head _))
      k_steps
      rename Fr _ _ _ _ => FZ
      rename News _ _ _ _ => NZ
      refine TurnJ.fin FZ NZ ((Dp, listOf (List.toArray (ws ++ [Value.int (P i) tz])) (k + 1)) :: T) ?_ ?_ ⟨_, _, _, mapD_of (by repeat (first | exact map_base | refine map_inner (by decide) ?_ | refine map_peel (by decide) ?_)), rfl, ?_⟩
      · intro q hq
        simp only [List.mem_cons] at hq ⊢
        rcases hq with hq | hq | hq <;> simp [hq]
      · intro q hq
        rcases List.mem_cons.mp hq with rfl | hq
        · exact Ne.symm n1
        · exact hoI q (.tail _ hq)
      · rw [List.range_succ, List.map_append]
        exact hws.append (.cons _ _ .nil)
  · subst hm0
    rintro m1 led h tk ⟨u, ws, k, rfl, rfl, hws⟩ FT NT
    k_steps
    rename Fr h₀ L _ _ => FZ
    rename News h₀ L _ _ => NZ
    exact hret _ _ _ _ FZ NZ ⟨Dp, ws, k, rfl, rfl, hTp, hws⟩
end Mine
end
section
open PySem PySem.W PyProof.Rows PySem.Calls
set_option maxRecDepth 100000
namespace Mine
local macro_rules | `(tactic| k_mem) => `(tactic| first | assumption | exact List.Mem.tail _ (by assumption))
local macro_rules | `(tactic| walk_at "call ref") => `(tactic| (k_here; refine Stop.mk ?_))
local macro_rules | `(tactic| walk_at "subscriptTail") => `(tactic| (k_here; (with_reducible show wpAny _ _ (subscriptTail _ _ (Value.ref _) (Value.int _ _)) _ _ _); k_dflt (refine' item_lK ?k1 ?k2 ?k3 ?k4 ?_ ?k5; (case k1 => k_asm); (case k2 => k_mem); (case k3 => decide); (case k4 => rfl); (case k5 => with_unfolding_all rfl); k_whole)))
local macro_rules | `(tactic| walk_at "binaryOp Mult float int") => `(tactic| (k_here; refine mulfi_K (by omega) ?_))
local macro_rules | `(tactic| walk_at "call type:int") => `(tactic| (k_here; (with_reducible show wpAny _ _ (call _ [Value.float _ _]) _ _ _); refine intF_K rfl (by assumption) ?_))
noncomputable def sizePost (r g b : Int) (v : Value) (new : Led) : Prop := (∃ u, v = .int (fint (sizeF r g b)) u) ∧ new = []
set_option maxHeartbeats 8000000 in
theorem size_spec (w : World) (loose mean mg mb) (T : Led) (D : Addr) (k : Nat) (vs : List Value) (r g b : Int) (hD : (D, listOf vs.toArray k) ∈ T) (hi : IntsAre vs [r, g, b]) (hr : 0 ≤ r ∧ r < 1048576) (hg : 0 ≤ g ∧ g < 1048576) (hb : 0 ≤ b ∧ b < 1048576) (hf : Float64.isFinite (sizeF r g b) = true) :
   Spec PySem.Challenge.pw_wf0044_01 w (Mine.hd.heap_39 w.params) topProg loose mean mg mb 15 80 103 [.ref D] T (sizePost r g b) := by
  unfold Spec
  intro dp un gd cn cs a ccd cl outer A₀ base h₀ L m s Q E B F X N Tp hk hd hu hret
  refine wpAny_call ?_
  have hk0 : (PySem.Challenge.rw_wf0044_01 = PySem.Challenge.rw_wf0044_01 ∧ Mine.hd.heap_39 = Mine.hd.heap_39) := by (k_fill; exact ⟨rfl, rfl⟩)
  clear hk0
  cases hi with | cons _ ta i1 => cases i1 with | cons _ tb i1 => cases i1 with | cons _ tc i1 => cases i1 with | nil =>
  k_dflt ktr_enter
  k_steps
  refine Stop.in ?_
  k_dflt (refine' spec_use (rgb_spec w loose mean mg mb T r g b _ _ _ hr hg hb) ?k1 ?k2 ?k3 ?k4 ?k5 ?kK ?kd ?ku ?_; (case k1 => k_asm); (case k2 => k_asm); (case k3 => k_asm); (case k4 => k_asm); (case k5 => k_asm); (case kK => exact rfl))
  case kd => ktr_room
  case ku => ktr_units
  rintro rv new h4 tk4 F4 N4 l4 ⟨Dt, u1, u2, u3, rfl, rfl⟩
  dsimp only at F4 N4
  have hm : -1000000000 < max r (max g b) ∧ max r (max g b) < 1000000000 := by omega
  unfold sizeF at hf
  dsimp only at hf
  k_steps
  rename Fr h₀ L _ _ => FZ
  rename News h₀ L _ _ => NZ
  exact hret0 hret FZ (fun p hp => NZ p (.tail _ (.tail _ hp))) ⟨⟨_, rfl⟩, rfl⟩
end Mine
end
section
open PySem PySem.W PyProof.Rows PySem.Calls
set_option maxRecDepth 100000
namespace Mine
noncomputable def PartV (V : Int) (x : UInt64) (v : Value) : Prop := (∃ u, v = .float x u) ∨ (∃ u, v = .int V u ∧ x = Float64.ofInt V)
theorem PartV.f {V : Int} {x : UInt64} {u : Tok} : PartV V x (.float x u) := .inl ⟨u, rfl⟩
theorem PartV.i {V : Int} {u : Tok} : PartV V (Float64.ofInt V) (.int V u) := .inr ⟨u, rfl, rfl⟩
noncomputable def hsvIPost (h sg : UInt64) (V : Int) (v : Value) (new : Led) : Prop :=
  ∃ D a b c, v = .ref D ∧ new = [(D, tupObj [a, b, c])] ∧ PartV V (hsvF h sg (Float64.ofInt V)).1 a ∧ PartV V (hsvF h sg (Float64.ofInt V)).2.1 b ∧ PartV V (hsvF h sg (Float64.ofInt V)).2.2 c
theorem hsvIPost_of {h sg : UInt64} {V : Int} {a b c : UInt64} {D : Addr} {x y z : Value} (e : hsvF h sg (Float64.ofInt V) = (a, b, c)) (hx : PartV V a x) (hy : PartV V b y) (hz : PartV V c z) : hsvIPost h sg V (.ref D) [(D, tupObj [x, y, z])] :=
  ⟨D, x, y, z, rfl, rfl, by rw [e]; exact hx, by rw [e]; exact hy, by rw [e]; exact hz⟩
theorem mulif_K {prog : Program} {w : World} {A : Around} {E : Value → Shared → Prop} {s : Shared} {t u : Tok} {n : Int} {a : UInt64} {Q : Value → Shared → Prop} (hn : -1000000000 < n ∧ n < 1000000000) (h : Q (.float (Float64.mul (Float64.ofInt n) a) s.toks) { s with toks := s.toks + 1 }) :
    wpAny (model prog w) A (binaryOp .Mult (.int n t) (.float a u)) Q E s :=
  mul_if_fits (Nat.lt_of_lt_of_le (m := 2 ^ 30) (by omega) (Nat.pow_le_pow_right (by decide) (by decide))) h
theorem addif_K {prog : Program} {w : World} {A : Around} {E : Value → Shared → Prop} {s : Shared} {t u : Tok} {n : Int} {a : UInt64} {Q : Value → Shared → Prop} (hn : -1000000000 < n ∧ n < 1000000000) (h : Q (.float (Float64.add (Float64.ofInt n) a) s.toks) { s with toks := s.toks + 1 }) :
    wpAny (model prog w) A (binaryOp .Add (.int n t) (.float a u)) Q E s :=
  add_if_fits (Nat.lt_of_lt_of_le (m := 2 ^ 30) (by omega) (Nat.pow_le_pow_right (by decide) (by decide))) h
local macro_rules | `(tactic| walk_at "binaryOp Mult int float") => `(tactic| (k_here; refine mulif_K (by assumption) ?_))
set_option maxHeartbeats 8000000 in
theorem hsvI_spec (w : World) (loose mean mg mb) (T : Led) (h sg : UInt64) (V : Int) (t1 t2 t3 : Tok) (hV : -1000000000 < V ∧ V < 1000000000) (hn : Float64.isNaN (Float64.mul h 4618441417868443648) = false) (hi : Float64.isInf (Float64.mul h 4618441417868443648) = false) (hs : (hsvN h).natAbs < 1000000) :
   Spec PySem.Challenge.pw_wf0044_01 w (Mine.hd.heap_39 w.params) topProg loose mean mg mb 5 20 70 [.float h t1, .float sg t2, .int V t3] T (hsvIPost h sg V) := by
  unfold Spec
  intro dp un gd cn cs a ccd cl outer A₀ base h₀ L m s Q E B F X N Tp hk hd hu hret
  refine wpAny_call ?_
  have hk0 : (PySem.Challenge.rw_wf0044_01 = PySem.Challenge.rw_wf0044_01 ∧ Mine.hd.heap_39 = Mine.hd.heap_39) := by (k_fill; exact ⟨rfl, rfl⟩)
  clear hk0
  k_dflt ktr_enter
  k_steps
  · exact hret1 hret (by assumption) (by assumption) (by assumption) (hsvIPost_of (by unfold hsvF; rw [if_pos (by assumption)]) .i .i .i)
  · exact absurd (by assumption) (ov_no hs)
  all_goals have hz : ¬ (Float64.cmp sg 0 == some Ordering.eq) = true := by simp_all
  · exact hret1 hret (by assumption) (by assumption) (by assumption) (hsvIPost_of (by unfold hsvF; rw [if_neg hz, if_pos (by assumption)]; rfl) .i .f .f)
  · exact hret1 hret (by assumption) (by assumption) (by assumption) (hsvIPost_of (by unfold hsvF; rw [if_neg hz, if_neg (by assumption), if_pos (by assumption)]; rfl) .f .i .f)
  · exact hret1 hret (by assumption) (by assumption) (by assumption) (hsvIPost_of (by unfold hsvF; rw [if_neg hz, if_neg (by assumption), if_neg (by assumption), if_pos (by assumption)]; rfl) .f .i .f)
  · exact hret1 hret (by assumption) (by assumption) (by assumption) (hsvIPost_of (by unfold hsvF; rw [if_neg hz, if_neg (by assumption), if_neg (by assumption), if_neg (by assumption), if_pos (by assumption)]; rfl) .f .f .i)
  · exact hret1 hret (by assumption) (by assumption) (by assumption) (hsvIPost_of (by unfold hsvF; rw [if_neg hz, if_neg (by assumption), if_neg (by assumption), if_neg (by assumption), if_neg (by assumption), if_pos (by assumption)]; rfl) .f .f .i)
  · exact hret1 hret (by assumption) (by assumption) (by assumption) (hsvIPost_of (by unfold hsvF; rw [if_neg hz, if_neg (by assumption), if_neg (by assumption), if_neg (by assumption), if_neg (by assumption), if_neg (by assumption)]; rfl) .i .f .f)
  all_goals exact (fmod6 (by assumption) (by assumption) (by assumption) (by assumption) (by assumption) (by assumption)).elim
end Mine
end
section
open PySem PySem.W PyProof.Rows PySem.Calls
open PyProof.Rows.LCg
set_option maxRecDepth 100000
namespace Mine
noncomputable def trGood (r g b k : Int) : Bool := !Float64.isNaN (Float64.mul (trH r g b k) 4618441417868443648) && (!Float64.isInf (Float64.mul (trH r g b k) 4618441417868443648) && (decide ((hsvN (trH r g b k)).natAbs < 1000000) && (finH (trP r g b k).1 && (finH (trP r g b k).2.1 && (finH (trP r g b k).2.2 &&
  (rngC (rnd (trP r g b k).1) && (rngC (rnd (trP r g b k).2.1) && rngC (rnd (trP r g b k).2.2))))))))
noncomputable def tracesL (r g b : Int) (n : Nat) : List Int := (List.range n).map fun (j : Nat) => trace r g b (j : Int)
theorem tracesL_succ {r g b : Int} {n : Nat} : tracesL r g b (n + 1) = tracesL r g b n ++ [trace r g b (n : Int)] := by
  unfold tracesL
  rw [List.range_succ, List.map_append]; rfl
local macro_rules | `(tactic| k_mem) => `(tactic| first | assumption | (apply List.Mem.tail; k_mem))
local macro_rules | `(tactic| k_all) => `(tactic| first | assumption | (refine allNe_lt (by assumption) ?_; show @LE.le Nat _ _ _; omega))
local macro_rules | `(tactic| walk_at "call ref") => `(tactic| (k_here; refine Stop.mk ?_))
local macro_rules | `(tactic| walk_at "pyIter ref") => `(tactic| (k_here; refine Stop.mk ?_))
local macro_rules | `(tactic| walk_at "eval ListComp") => `(tactic| (k_here; refine Stop.mk ?_))
local macro_rules | `(tactic| walk_at "CompEnd") => `(tactic| (refine Stop.mk ?_))
local macro_rules | `(tactic| walk_at "exec For Name Call cons nil") => `(tactic| (k_here; k_dflt (refine For_J (by k_asm) (by rfl) (by rfl) ?_ (by with_unfolding_all passes_own))))
local macro_rules | `(tactic| walk_at "subscriptTail") => `(tactic| (k_here; (with_reducible show wpAny _ _ (subscriptTail _ _ (Value.ref _) (Value.int _ _)) _ _ _); k_dflt (refine' item_lK ?k1 ?k2 ?k3 ?k4 ?_ ?k5; (case k1 => k_asm); (case k2 => k_mem); (case k3 => decide); (case k4 => rfl); (case k5 => with_unfolding_all rfl); k_whole)))
local macro_rules | `(tactic| walk_at "binaryOp Mult int int") => `(tactic| (k_here; refine mul_K (small_int (by omega)) (small_int (by omega)) ?_))
local macro_rules | `(tactic| walk_at "binaryOp Div int float") => `(tactic| (k_here; refine divif_K (by omega) (by decide +kernel) ?_))
local macro_rules | `(tactic| walk_at "binaryOp Add int float") => `(tactic| (k_here; refine addif_K (by assumption) ?_))
local macro_rules | `(tactic| walk_at "call type:int") => `(tactic| (k_here; (with_reducible show wpAny _ _ (call _ [Value.float _ _]) _ _ _); refine intF_K rfl (by assumption) ?_))
local macro_rules | `(tactic| walk_at "call builtin:list.append") => `(tactic| (k_here; (with_reducible show wpAny _ _ (call (Value.builtin _) [Value.ref _, _]) _ _ _); k_dflt (refine' append_lK ?k1 ?k2 ?k3 ?k4 ?_; (case k1 => k_asm); (case k2 => k_asm); (case k3 => k_upd); (case k4 => assumption); k_whole); intro h' F' N'; (try k_sweep)))
noncomputable def tracesPost (ns : List Int) (T : Led) (v : Value) (T' : Led) : Prop := ∃ D ws k, v = .ref D ∧ T' = (D, listOf (List.toArray ws) k) :: T ∧ (∀ q ∈ T, q.1 ≠ D) ∧ IntsAre ws ns
set_option maxHeartbeats 8000000 in
theorem traces_spec (w : World) (loose mean mg mb) (T : Led) (D : Addr) (k : Nat) (vs : List Value) (r g b : Int) (hD : (D, listOf vs.toArray k) ∈ T) (hi : IntsAre vs [r, g, b]) (hr : 0 ≤ r ∧ r < 1048576) (hg : 0 ≤ g ∧ g < 1048576) (hb : 0 ≤ b ∧ b < 1048576) (hok : ∀ j : Nat, j < 6 → trGood r g b (j : Int) = true) :
   SpecT PySem.Challenge.pw_wf0044_01 w (Mine.hd.heap_39 w.params) topProg loose mean mg mb 15 80 108 [.ref D] T (tracesPost (tracesL r g b 6) T) := by
  unfold SpecT
  intro dp un gd cn cs a ccd cl outer A₀ base h₀ L m s0 Q E B F X N Tp hk hd hu hret
  refine wpAny_call ?_
  have hk0 : (PySem.Challenge.rw_wf0044_01 = PySem.Challenge.rw_wf0044_01 ∧ Mine.hd.heap_39 = Mine.hd.heap_39) := by (k_fill; exact ⟨rfl, rfl⟩)
  clear hk0
  cases hi with | cons _ ta i1 => cases i1 with | cons _ tb i1 => cases i1 with | cons _ tc i1 => cases i1 with | nil =>
  k_dflt ktr_enter
  k_steps
  refine Stop.in ?_
  k_dflt (refine' spec_use (rgb_spec w loose mean mg mb T r g b _ _ _ hr hg hb) ?k1 ?k2 ?k3 ?k4 ?k5 ?kK ?kd ?ku ?_; (case k1 => k_asm); (case k2 => k_asm); (case k3 => k_asm); (case k4 => k_asm); (case k5 => k_asm); (case kK => exact rfl))
  case kd => ktr_room
  case ku => ktr_units
  rintro rv new h4 tk4 F4 N4 l4 ⟨Dt, u1, u2, u3, rfl, rfl⟩
  dsimp only at F4 N4
  have hm : -1000000000 < max r (max g b) ∧ max r (max g b) < 1000000000 := by omega
  k_steps
  refine Stop.in ?_
  (rename News _ _ _ _ => Nn)
  (rename Fr _ _ _ _ => FF)
  rename ∀ p ∈ _ ++ T, _ => lT
  refine with_fr FF fun m0 hm0 F0 => ?_
  refine name1 Nn fun Dr hDr => ?_
  subst hDr
  have hTr : ∀ q ∈ T, q.1 ≠ Dr := fun q hq => Nat.ne_of_lt (lT q (List.mem_append_right _ hq))
  have NB : News _ _ _ ((Dr, listOf (List.toArray []) 0) :: T) := news_hd Nn (fun q hq => .tail _ hq)
  refine iter_rangeJ (n := 6) (J := fun i m led => ∃ u ws k, m = mapD [Str.ofString "step", Str.ofString "paint", Str.ofString "red", Str.ofString "green", Str.ofString "blue"] u m0 ∧ led = (Dr, listOf (List.toArray ws) k) :: T ∧ IntsAre ws (tracesL r g b i))
     rfl (by assumption) (by decide +kernel) (by decide +kernel) F0 NB ?_ ?_ ?_
  · subst hm0
    exact ⟨_, [], 0, mapD_self, rfl, .nil⟩
  · subst hm0
    rintro I i t' m1 led h tk it hi ⟨u, ws, k', rfl, rfl, hws⟩ hoI _ hic FT NT
    have hwl : ws.length < 1000000 := by rw [hws.length, tracesL, List.length_map, List.length_range]; omega
    have hq := hok i hi
    have ei : 0 + (i : Int) * 1 = i := by omega
    rw [← ei] at hq
    have n1 : @Ne Nat I Dr := Ne.symm (hoI (Dr, _) (.head _))
    simp only [trGood, rngC, finH, Bool.and_eq_true, Bool.not_eq_true', decide_eq_true_eq] at hq
    obtain ⟨q1, q2, q3, q4, q5, q6, q7, q8, q9⟩ := hq
    unfold trH at q1 q2 q3
    k_steps
    refine Stop.in ?_
    k_dflt (refine' spec_use (hsvI_spec w loose mean mg mb _ (Float64.add (rgbH r g b) (Float64.div (Float64.ofInt (0 + (i : Int) * 1)) 4618441417868443648)) (rgbS r g b) (max r (max g b)) _ _ _ hm q1 q2 q3) ?k1 ?k2 ?k3 ?k4 ?k5 ?kK ?kd ?ku ?_; (case k1 => k_asm); (case k2 => k_asm); (case k3 => k_asm); (case k4 => k_asm); (case k5 => k_asm); (case kK => exact rfl))
    case kd => ktr_room
    case ku => ktr_units
    rintro rv5 new5 h5 tk5 F5 N5 l5 ⟨Dt5, va, vb, vc, rfl, rfl, pa, pb, pc⟩
    have l5' : ∀ q ∈ (I, it) :: (Dr, listOf (List.toArray ws) k') :: T, q.1 < Dt5 := fun q hq => l5 q hq _ (List.Mem.head _)
    clear l5
    (try k_lt l5')
    k_steps
    refine Stop.in ?_
    k_dflt (refine ListComp_W (by k_asm) (by rfl) (by decide) (by rfl) (by decide) (by rfl) ?_)
    k_steps
    refine Stop.in ?_
    refine blk_tuple rfl (by k_asm) (by k_asm) (List.Mem.head _) (by simp) fun gh => ?_
    obtain ⟨tp, htp⟩ : ∃ tp, tp = trP r g b (0 + (i : Int) * 1) := ⟨_, rfl⟩
    rw [← htp] at q4 q5 q6 q7 q8 q9
    replace pa : PartV (max r (max g b)) tp.1 va := by rw [htp]; exact pa
    replace pb : PartV (max r (max g b)) tp.2.1 vb := by rw [htp]; exact pb
    replace pc : PartV (max r (max g b)) tp.2.2 vc := by rw [htp]; exact pc
    obtain ⟨x1, x2, x3⟩ := tp
    dsimp only at q4 q5 q6 q7 q8 q9 pa pb pc
    refine comp_ints (fun j => ([rnd x1, rnd x2, rnd x3] : List Int).getD j 0) ?_ ?_
    · intro j v ys I2 oI C oC D2 m₂ h2 tk2 E' hj hP hC hx2 F6 N6 off6 ne6
      clear htp
      rcases j with _ | _ | _ | j
      · simp only [List.getElem?_cons_zero, List.getElem?_cons_succ, List.getElem?_nil, Option.some.injEq, reduceCtorEq] at hP
        subst hP
        rcases pa with ⟨u, rfl⟩ | ⟨u, rfl, rfl⟩
        all_goals k_steps
        all_goals refine Stop.in ?_
        all_goals exact CompEnd.fin0 (by assumption) (by assumption) off6 (List.Mem.head _) rfl
      · simp only [List.getElem?_cons_zero, List.getElem?_cons_succ, List.getElem?_nil, Option.some.injEq, reduceCtorEq] at hP
        subst hP
        rcases pb with ⟨u, rfl⟩ | ⟨u, rfl, rfl⟩
        all_goals k_steps
        all_goals refine Stop.in ?_
        all_goals exact CompEnd.fin0 (by assumption) (by assumption) off6 (List.Mem.head _) rfl
      · simp only [List.getElem?_cons_zero, List.getElem?_cons_succ, List.getElem?_nil, Option.some.injEq, reduceCtorEq] at hP
        subst hP
        rcases pc with ⟨u, rfl⟩ | ⟨u, rfl, rfl⟩
        all_goals k_steps
        all_goals refine Stop.in ?_
        all_goals exact CompEnd.fin0 (by assumption) (by assumption) off6 (List.Mem.head _) rfl
      · simp only [List.getElem?_cons_zero, List.getElem?_cons_succ, List.getElem?_nil, Option.some.injEq, reduceCtorEq] at hP
    · intro ys hys
      replace hys : IntsAre ys [rnd x1, rnd x2, rnd x3] := hys
      have etr : trace r g b (i : Int) = 2 * rnd x1 - rnd x2 - rnd x3 := by rw [trace, ← ei, ← htp]
      generalize rnd x1 = y1 at *
      generalize rnd x2 = y2 at *
      generalize rnd x3 = y3 at *
      cases hys with | cons _ ta hys => cases hys with | cons _ tb hys => cases hys with | cons _ tc hys => cases hys with | nil =>
      unfold FinE
      intro D3 h3 tk3 F3 N3 o3
      replace o3 := off1_of o3
      have n2 : @Ne Nat D3 Dr := Ne.symm (o3 (Dr, _) (.tail _ (.tail _ (.head _))))
      k_steps
      rename Fr _ _ _ _ => FZ
      rename News _ _ _ _ => NZ
      obtain ⟨tz, htz⟩ := pick_tok NZ Dr (fun t => listOf (List.toArray (ws ++ [Value.int (2 * y1 - y2 - y3) t])) (k' + 1)) ⟨_, by simp only [List.mem_cons]; exact .inr (.inr (.inr (.inl rfl)))⟩
      refine TurnJ.fin FZ NZ ((Dr, listOf (List.toArray (ws ++ [Value.int (2 * y1 - y2 - y3) tz])) (k' + 1)) :: T) ?_ ?_ ⟨_, _, _, mapD_of (by repeat (first | exact map_base | refine map_peel (by decide) ?_)), rfl, ?_⟩
      · intro q hq
        rcases List.mem_cons.mp hq with rfl | hq
        · exact .tail _ (.tail _ (.head _))
        rcases List.mem_cons.mp hq with rfl | hq
        · exact htz
        · exact .tail _ (.tail _ (.tail _ (.tail _ hq)))
      · intro q hq
        rcases List.mem_cons.mp hq with rfl | hq
        · exact Ne.symm n1
        · exact hoI q (.tail _ hq)
      · rw [tracesL_succ, etr]
        exact hws.append (.cons _ _ .nil)
  · subst hm0
    rintro m1 led h tk ⟨u, ws, k, rfl, rfl, hws⟩ FT NT
    k_steps
    rename Fr h₀ L _ _ => FZ
    rename News h₀ L _ _ => NZ
    exact hret _ _ _ _ FZ NZ ⟨Dr, ws, k, rfl, rfl, hTr, hws⟩
end Mine
end
section
open PySem PySem.W PyProof.Rows PySem.Calls
open PyProof.Rows.LCg
set_option maxRecDepth 100000
namespace Mine
theorem getit_K {prog : Program} {w : World} {A : Around} {E : Value → Shared → Prop} {s : Shared} {h₀ : Heap} {L l : Addr} {news : Led} {u : Tok} {vs : List Value} {k : Nat} {i : Int} {v : Value} {Q : Value → Shared → Prop} (N : News h₀ L s.heap news) (hl : (l, listOf vs.toArray k) ∈ news) (hi : 0 ≤ i ∧ i < 1000000) (hv : vs[i.toNat]? = some v) (h : Q v s) :
    wpAny (model prog w) A (getItem (.ref l) (.int i u)) Q E s :=
  wpAny_getItem_list (PySem.IsL.isList (n := k) (N _ hl).1) hi.1 (by omega) (by simpa using hv) h
theorem rowSt_len {p : Nat} {a : Int} {e : Nat} : ∀ i, (rowSt p a e i).length = p
  | 0 => by rw [rowSt, List.length_replicate]
  | i + 1 => by rw [rowSt, List.length_set, rowSt_len i]
theorem rowSt_rng {p : Nat} {a : Int} {e : Nat} : ∀ i, ∀ x ∈ rowSt p a e i, 0 ≤ x ∧ x ≤ i
  | 0 => by
    intro x hx
    rw [rowSt] at hx
    rw [(List.mem_replicate.mp hx).2]
    omega
  | i + 1 => by
    intro x hx
    rw [rowSt] at hx
    have ih := rowSt_rng (p := p) (a := a) (e := e) i
    rcases List.mem_or_eq_of_mem_set hx with h | h
    · have := ih x h
      omega
    · subst h
      by_cases hj : (a * (i : Int) ^ e % p).toNat < (rowSt p a e i).length
      · have := ih _ (kso_getD hj)
        omega
      · rw [List.getD_eq_getElem?_getD, List.getElem?_eq_none (by omega)]
        show (0 : Int) ≤ 0 + 1 ∧ (0 : Int) + 1 ≤ _
        omega
theorem pow_rng {x : Int} {e : Nat} (hx : 0 ≤ x ∧ x < 38) (he : e = 2 ∨ e = 3) : 0 ≤ x ^ e ∧ x ^ e < 60000 := by
  have h2 : x ^ 2 = x * x := by rw [Int.pow_succ, Int.pow_succ, Int.pow_zero, Int.one_mul]
  have b2 : 0 ≤ x * x ∧ x * x ≤ 37 * 37 := prod_rng ⟨hx.1, by omega⟩ ⟨hx.1, by omega⟩
  rcases he with rfl | rfl
  · rw [h2]; omega
  · rw [Int.pow_succ, h2]
    have b3 : 0 ≤ x * x * x ∧ x * x * x ≤ 37 * 37 * 37 := prod_rng b2 ⟨hx.1, by omega⟩
    omega
theorem pick24 {h₀ h : Heap} {L : Addr} {p1 p2 p3 p4 p5 : Addr × Obj} {T : Led} (N : News h₀ L h (p1 :: p2 :: p3 :: p4 :: p5 :: T)) : News h₀ L h (p2 :: p4 :: T) := fun q hq => N q (by
  rcases List.mem_cons.mp hq with rfl | hq
  · exact .tail _ (.head _)
  rcases List.mem_cons.mp hq with rfl | hq
  · exact .tail _ (.tail _ (.tail _ (.head _)))
  · exact .tail _ (.tail _ (.tail _ (.tail _ (.tail _ hq)))))
local macro_rules | `(tactic| k_mem) => `(tactic| first | assumption | (apply List.Mem.tail; k_mem))
local macro_rules | `(tactic| k_all) => `(tactic| first | assumption | (refine allNe_lt (by assumption) ?_; show @LE.le Nat _ _ _; omega))
local macro_rules | `(tactic| walk_at "pyIter ref") => `(tactic| (k_here; refine Stop.mk ?_))
local macro_rules | `(tactic| walk_at "getItem ref int") => `(tactic| (k_here; refine Stop.mk ?_))
local macro_rules | `(tactic| walk_at "setItem ref int") => `(tactic| (k_here; k_dflt (refine' set_lK ?k1 ?k2 ?k3 ?k4 ?_; (case k1 => k_asm); (case k2 => k_asm); (case k3 => k_upd); (case k4 => assumption); k_whole); intro h' F' N'; (try k_sweep)))
local macro_rules | `(tactic| walk_at "exec For Name Call cons nil") => `(tactic| (k_here; k_dflt (refine For_J (by k_asm) (by rfl) (by rfl) ?_ (by with_unfolding_all passes_own))))
local macro_rules | `(tactic| walk_at "exec For") => `(tactic| (k_here; k_dflt (refine For_J (by k_asm) (by rfl) (by rfl) ?_ (by with_unfolding_all passes_own))))
local macro_rules | `(tactic| walk_at "binaryOp Mult ref int") => `(tactic| (k_here; k_dflt (refine' rep_K ?k1 ?k2 ?k3 ?k4 ?_; (case k1 => k_asm); (case k2 => k_asm); (case k3 => k_mem); (case k4 => (show _; omega)); k_whole); intro D' h' vs' F' N' l1 i1 n1; (try k_lt l1)))
local macro_rules | `(tactic| walk_at "binaryOp Mult int int") => `(tactic| (k_here; refine mul_K (small_int (by assumption)) (small_int (by assumption)) ?_))
local macro_rules | `(tactic| walk_at "binaryOp Pow int int") => `(tactic| (k_here; refine pow_int_small (by decide) (by decide) (by omega) ?_))
local macro_rules | `(tactic| walk_at "call type:bytes") => `(tactic| (k_here; (with_reducible show wpAny _ _ (call (Value.type "bytes") [Value.ref _]) _ _ _); refine Stop.mk ?_))
noncomputable def rowsPost (p : Nat) (a b : Int) (T : Led) (v : Value) (T' : Led) : Prop := ∃ D x y t t', v = .ref D ∧ T' = (D, tupObj [.bytes x t, .bytes y t']) :: T ∧ (∀ q ∈ T, q.1 < D) ∧ PySem.W.KBw.bInts x = rowL p a 3 ∧ PySem.W.KBw.bInts y = rowL p b 2
set_option maxHeartbeats 8000000 in
theorem rows_spec (w : World) (loose mean mg mb) (T : Led) (p : Nat) (a b : Int) (t1 t2 t3 : Tok) (hp : 2 ≤ p ∧ p < 38) (ha : 0 ≤ a ∧ a < 38) (hb : 0 ≤ b ∧ b < 38) :
   SpecT PySem.Challenge.pw_wf0044_01 w (Mine.hd.heap_39 w.params) topProg loose mean mg mb 15 80 115 [.int (p : Int) t1, .int a t2, .int b t3] T (rowsPost p a b T) := by
  unfold SpecT
  intro dp un gd cn cs a' ccd cl outer A₀ base h₀ L m s0 Q E B F X N Tp hk hd hu hret
  refine wpAny_call ?_
  have hk0 : (PySem.Challenge.rw_wf0044_01 = PySem.Challenge.rw_wf0044_01 ∧ Mine.hd.heap_39 = Mine.hd.heap_39) := by (k_fill; exact ⟨rfl, rfl⟩)
  clear hk0
  k_dflt ktr_enter
  k_steps
  refine Stop.in ?_
  (rename News _ _ _ _ => Nn)
  (rename Fr _ _ _ _ => FF)
  refine with_fr FF fun m0 hm0 F0 => ?_
  refine name4 Nn fun Du Ds Dl Dc hDu hDs hDl hDc => ?_
  subst hDu hDs hDl hDc
  rename Dl < Ds ∧ Dc < Ds ∧ _ < Ds ∧ AllLt Ds T => lS
  rename _ < Dc ∧ AllLt Dc T => lC
  have hTs : ∀ q ∈ T, q.1 ≠ Ds := allLt_neOf lS.2.2.2
  have hTc : ∀ q ∈ T, q.1 ≠ Dc := allLt_neOf lC.2
  have n0 : @Ne Nat Dc Ds := Nat.ne_of_lt lS.2.1
  rw [Int.toNat_natCast] at *
  have NB := pick24 Nn
  refine iter_rangeJ (n := p) (J := fun i m led => ∃ u xs k1 ys k2, m = mapD [Str.ofString "place"] u m0 ∧ led = (Ds, listOf (List.toArray ys) k2) :: (Dc, listOf (List.toArray xs) k1) :: T ∧ IntsAre xs (rowSt p a 3 i) ∧ IntsAre ys (rowSt p b 2 i))
     rfl (by assumption) (range_small' ⟨by omega, by omega⟩ ⟨by omega, by omega⟩ ⟨by omega, by omega⟩) (range_size1 rfl) F0 NB ?_ ?_ ?_
  · subst hm0
    exact ⟨_, _, 0, _, 0, mapD_self, rfl, by rw [rowSt]; assumption, by rw [rowSt]; assumption⟩
  · subst hm0
    rintro I i t' m1 led h tk it hi ⟨u, xs, k1, ys, k2, rfl, rfl, hxs, hys⟩ hoI _ hic FT NT
    have ei : 0 + (i : Int) * 1 = i := by omega
    have nS : @Ne Nat I Ds := Ne.symm (hoI (Ds, _) (.head _))
    have nC : @Ne Nat I Dc := Ne.symm (hoI (Dc, _) (.tail _ (.head _)))
    have hxl : xs.length = p := by rw [hxs.length, rowSt_len]
    have hyl : ys.length = p := by rw [hys.length, rowSt_len]
    have hp3 := pow_rng (x := 0 + (i : Int) * 1) (e := 3) (by omega) (.inr rfl)
    have hp2 := pow_rng (x := 0 + (i : Int) * 1) (e := 2) (by omega) (.inl rfl)
    have hs3 : -1000000000 < (0 + (i : Int) * 1) ^ (3 : Int).toNat ∧ (0 + (i : Int) * 1) ^ (3 : Int).toNat < 1000000000 := ⟨by have := hp3.1; show _ < _ ^ 3; omega, by have := hp3.2; show _ ^ 3 < _; omega⟩
    have hs2 : -1000000000 < (0 + (i : Int) * 1) ^ (2 : Int).toNat ∧ (0 + (i : Int) * 1) ^ (2 : Int).toNat < 1000000000 := ⟨by have := hp2.1; show _ < _ ^ 2; omega, by have := hp2.2; show _ ^ 2 < _; omega⟩
    have hsa : -1000000000 < a ∧ a < 1000000000 := by omega
    have hsb : -1000000000 < b ∧ b < 1000000000 := by omega
    k_steps
    refine Stop.in ?_
    have e3 : (a * (0 + (i : Int) * 1) ^ (3 : Int).toNat).fmod p = a * (i : Int) ^ 3 % p := by
      rw [Int.fmod_eq_emod_of_nonneg _ (by omega), ei]; rfl
    have e2 : (b * (0 + (i : Int) * 1) ^ (2 : Int).toNat).fmod p = b * (i : Int) ^ 2 % p := by
      rw [Int.fmod_eq_emod_of_nonneg _ (by omega), ei]; rfl
    have r3 : 0 ≤ a * (i : Int) ^ 3 % p ∧ a * (i : Int) ^ 3 % p < p := ⟨Int.emod_nonneg _ (by omega), Int.emod_lt_of_pos _ (by omega)⟩
    have r2 : 0 ≤ b * (i : Int) ^ 2 % p ∧ b * (i : Int) ^ 2 % p < p := ⟨Int.emod_nonneg _ (by omega), Int.emod_lt_of_pos _ (by omega)⟩
    rw [← e3] at r3
    rw [← e2] at r2
    obtain ⟨t3', g3⟩ := int_at hxs (i := ((a * (0 + (i : Int) * 1) ^ (3 : Int).toNat).fmod p).toNat) (by rw [rowSt_len]; omega)
    obtain ⟨t2', g2⟩ := int_at hys (i := ((b * (0 + (i : Int) * 1) ^ (2 : Int).toNat).fmod p).toNat) (by rw [rowSt_len]; omega)
    have s3 : 0 ≤ (a * (0 + (i : Int) * 1) ^ (3 : Int).toNat).fmod p ∧ (a * (0 + (i : Int) * 1) ^ (3 : Int).toNat).fmod p < (xs.length : Int) ∧ xs.length < 1000000 := ⟨r3.1, by omega, by omega⟩
    have s2 : 0 ≤ (b * (0 + (i : Int) * 1) ^ (2 : Int).toNat).fmod p ∧ (b * (0 + (i : Int) * 1) ^ (2 : Int).toNat).fmod p < (ys.length : Int) ∧ ys.length < 1000000 := ⟨r2.1, by omega, by omega⟩
    refine getit_K (by k_asm) (k := k1) (vs := xs) (.tail _ (.tail _ (.head _))) ⟨r3.1, by omega⟩ g3 ?_
    k_steps
    refine Stop.in ?_
    refine getit_K (by k_asm) (k := k2) (vs := ys) (.tail _ (.head _)) ⟨r2.1, by omega⟩ g2 ?_
    k_steps
    rename Fr _ _ _ _ => FZ
    rename News _ _ _ _ => NZ
    refine TurnJ.fin0 FZ NZ ?_ ⟨_, _, _, _, _, mapD_of (by repeat (first | exact map_base | refine map_peel (by decide) ?_)), rfl, ?_, ?_⟩
    · intro q hq
      rcases List.mem_cons.mp hq with rfl | hq
      · exact Ne.symm nS
      rcases List.mem_cons.mp hq with rfl | hq
      · exact Ne.symm nC
      · exact hoI q (.tail _ (.tail _ hq))
    · rw [rowSt, ← e3]
      exact ints_set hxs _ _ _
    · rw [rowSt, ← e2]
      exact ints_set hys _ _ _
  · subst hm0
    rintro m1 led h tk ⟨u, xs, k1, ys, k2, rfl, rfl, hxs, hys⟩ FT NT
    k_steps
    refine Stop.in ?_
    have hxr : ∀ x ∈ rowSt p a 3 p, 0 ≤ x ∧ x < 256 := fun x hx => by
      have := rowSt_rng p x hx
      omega
    have hyr : ∀ x ∈ rowSt p b 2 p, 0 ≤ x ∧ x < 256 := fun x hx => by
      have := rowSt_rng p x hx
      omega
    have hxl : xs.length = p := by rw [hxs.length, rowSt_len]
    have hyl : ys.length = p := by rw [hys.length, rowSt_len]
    refine bytesL_K rfl (by k_asm) (by k_asm) (.tail _ (.head _)) hxs hxr (by omega) fun b1 t1 h1 tk1 eb1 sb1 F1 N1 => ?_
    k_steps
    refine Stop.in ?_
    refine bytesL_K rfl (by k_asm) (by k_asm) (.head _) hys hyr (by omega) fun b2 t2 h2 tk2 eb2 sb2 F2 N2 => ?_
    k_steps
    rename Fr h₀ L _ _ => FZ
    rename News h₀ L _ _ => NZ
    rename _ ∧ _ ∧ AllLt _ T => lZ
    exact hret _ _ _ _ FZ (news_hd NZ fun q hq => .tail _ (.tail _ hq)) ⟨_, b1, b2, _, _, rfl, rfl, fun q hq => allLt_ltOf lZ.2.2 q hq, eb1, eb2⟩
end Mine
end
section
open PySem PySem.W PyProof.Rows PySem.Calls
set_option maxRecDepth 100000
namespace Mine
noncomputable def lightR (p : Nat) : Int := if p = 7 then 2 else if p = 13 then 2 else if p = 19 then 8 else if p = 31 then 11 else 8
noncomputable def lightG1 (p : Nat) : Int := if p = 7 then 0 else if p = 13 then 3 else if p = 19 then 3 else if p = 31 then 12 else 15
noncomputable def lightB1 (p : Nat) : Int := if p = 7 then 3 else if p = 13 then 6 else if p = 19 then 6 else if p = 31 then 6 else 12
noncomputable def lightG (p : Nat) (s : Int) : Int := if s = 1 then lightG1 p else lightB1 p
noncomputable def lightB (p : Nat) (s : Int) : Int := if s = 1 then lightB1 p else lightG1 p
noncomputable def trT1 (p : Nat) : List Int := if p = 7 then [1, 5, 4, -1, -5, -4] else if p = 13 then [-5, 2, 7, 5, -2, -7] else if p = 19 then [7, 8, 1, -7, -8, -1] else if p = 31 then [4, -7, -11, -4, 7, 11] else [-11, -10, 1, 11, 10, -1]
noncomputable def trT5 (p : Nat) : List Int := if p = 7 then [1, -4, -5, -1, 4, 5] else if p = 13 then [-5, -7, -2, 5, 7, 2] else if p = 19 then [7, -1, -8, -7, 1, 8] else if p = 31 then [4, 11, 7, -4, -11, -7] else [-11, -1, 10, 11, 1, -10]
noncomputable def trT (p : Nat) (s : Int) : List Int := if s = 1 then trT1 p else trT5 p
noncomputable def lightOk (r g b p : Int) : Bool := rngC r && (rngC g && (rngC b && (Float64.isFinite (sizeF r g b) && decide (fint (sizeF r g b) = p))))
noncomputable def trOk (r g b k v : Int) : Bool := !Float64.isNaN (Float64.mul (trH r g b k) 4618441417868443648) && (!Float64.isInf (Float64.mul (trH r g b k) 4618441417868443648) && (decide ((hsvN (trH r g b k)).natAbs < 1000000) && (finH (trP r g b k).1 && (finH (trP r g b k).2.1 && (finH (trP r g b k).2.2 && decide (trace r g b k = v))))))
noncomputable def tabL (q : Nat × Int) (s : Int) : Bool := decide (3 * partOf q s 0 + 2 = lightR q.1) && (decide (3 * partOf q s 1 = lightG q.1 s) && (decide (3 * partOf q s 2 = lightB q.1 s) && (lightOk (lightR q.1) (lightG q.1 s) (lightB q.1 s) q.1 &&
  (List.range 6).all fun k => trOk (lightR q.1) (lightG q.1 s) (lightB q.1 s) (k : Int) ((trT q.1 s).getD k 0))))
theorem tabL_all : (rowsOf.all fun q => [1, 5].all fun s => tabL q s) = true := by decide +kernel
noncomputable def startL (p : Nat) (hs : List Int) (a b : Int) : Int := 4 * hs.getD 2 0 + 4 * hs.getD a.toNat 0 + 3 * hs.getD b.toNat 0 + 3 * hs.getD (p - 1) 0
noncomputable def wantL (p : Nat) (hs tr : List Int) (a b : Int) : List Int := ((List.range (p - 1)).map fun j => (p : Int) + tr.getD ((startL p hs a b + 5 * hs.getD (j + 1) 0) % 6).toNat 0) ++ [(p : Int)]
noncomputable def repA (q : Nat × Int) : List Int := [1, q.2, q.2 * q.2 % q.1]
noncomputable def repB (q : Nat × Int) : List Int := [1, q.2]
noncomputable def tabW (q : Nat × Int) (s a b : Int) (w : Nat) : Bool := wholeOk w q.1 (rowL q.1 a 3) (rowL q.1 b 2).reverse && decide (restW w q.1 (rowL q.1 a 3) (rowL q.1 b 2).reverse = wantL q.1 (huesL q.1 q.2 s) (trT q.1 s) a b)
theorem tabW_all : (rowsOf.all fun q => [1, 5].all fun s => (repA q).all fun a => (repB q).all fun b => widths.all fun w => tabW q s a b w) = true := by decide +kernel
noncomputable def clsA (q : Nat × Int) (s a : Int) : Bool := (repA q).any fun a' => decide (rowL q.1 a 3 = rowL q.1 a' 3) && decide ((huesL q.1 q.2 s).getD a.toNat 0 % 3 = (huesL q.1 q.2 s).getD a'.toNat 0 % 3)
noncomputable def clsB (q : Nat × Int) (s b : Int) : Bool := (repB q).any fun b' => decide (rowL q.1 b 2 = rowL q.1 b' 2) && decide ((huesL q.1 q.2 s).getD b.toNat 0 % 2 = (huesL q.1 q.2 s).getD b'.toNat 0 % 2)
theorem cls_all : (rowsOf.all fun q => [1, 5].all fun s => (List.range (q.1 - 1)).all fun i => clsA q s ((i : Int) + 1) && clsB q s ((i : Int) + 1)) = true := by decide +kernel
end Mine
end
section
open PySem PySem.W PyProof.Rows PySem.Calls
set_option maxRecDepth 100000
namespace Mine
theorem mem_own {own : Int} (h : 0 ≤ own ∧ own < 3) : own ∈ ([0, 1, 2] : List Int) := by
  have : own = 0 ∨ own = 1 ∨ own = 2 := by omega
  rcases this with rfl | rfl | rfl <;> decide
theorem mem_s {s : Int} (h : s = 1 ∨ s = 5) : s ∈ ([1, 5] : List Int) := by
  rcases h with rfl | rfl <;> decide
theorem mem_w {w : Nat} (h : 6 ≤ w ∧ w < 14) : w ∈ widths := by
  have : w = 6 ∨ w = 7 ∨ w = 8 ∨ w = 9 ∨ w = 10 ∨ w = 11 ∨ w = 12 ∨ w = 13 := by omega
  rcases this with rfl | rfl | rfl | rfl | rfl | rfl | rfl | rfl <;> decide
section
variable {q : Nat × Int} (hq : q ∈ rowsOf) {s : Int} (hs : s = 1 ∨ s = 5)
include hq hs
theorem tabA_at {own : Int} {w : Nat} (ho : 0 ≤ own ∧ own < 3) (hw : 6 ≤ w ∧ w < 14) : wholeOk w q.1 (lampsOf q s own) (lampsOf q s own) = true ∧ restW w q.1 (lampsOf q s own) (lampsOf q s own) = figL q s own := by
  have h := List.all_eq_true.mp (List.all_eq_true.mp (List.all_eq_true.mp (List.all_eq_true.mp tabA_all q hq) s (mem_s hs)) own (mem_own ho)) w (mem_w hw)
  simp only [tabA, Bool.and_eq_true, decide_eq_true_eq] at h
  exact h
theorem tabB_at {own : Int} (ho : 0 ≤ own ∧ own < 3) : (∀ t : Int, 0 ≤ t ∧ t < 3 → toldP (figL q s own) (huesL q.1 q.2 s) own t ≠ [] ∧ ∀ x ∈ toldP (figL q s own) (huesL q.1 q.2 s) own t, x = partOf q s t) ∧
    (figL q s own).getD 0 0 = ((q.1 : Int) - 1) / 3 ∧ [partOf q s 0 % 2, partOf q s 1 % 2, partOf q s 2 % 2] = [0, 1, 2].map fun t => if t = (huesL q.1 q.2 s).getD 2 0 % 3 then 1 else 0 := by
  have h := List.all_eq_true.mp (List.all_eq_true.mp (List.all_eq_true.mp tabB_all q hq) s (mem_s hs)) own (mem_own ho)
  simp only [tabB, Bool.and_eq_true, decide_eq_true_eq] at h
  obtain ⟨h0, h1, h2, h3, h4⟩ := h
  have key : ∀ t : Int, partOk q s own t = true → toldP (figL q s own) (huesL q.1 q.2 s) own t ≠ [] ∧ ∀ x ∈ toldP (figL q s own) (huesL q.1 q.2 s) own t, x = partOf q s t := by
    intro t h
    simp only [partOk, Bool.and_eq_true, Bool.not_eq_true', List.isEmpty_eq_false_iff, List.all_eq_true, decide_eq_true_eq] at h
    exact h
  refine ⟨fun t ht => ?_, h3, h4⟩
  have : t = 0 ∨ t = 1 ∨ t = 2 := by omega
  rcases this with rfl | rfl | rfl
  · exact key 0 h0
  · exact key 1 h1
  · exact key 2 h2
end
noncomputable def trRng (q : Nat × Int) (s : Int) : Bool := (List.range 6).all fun k => trGood (lightR q.1) (lightG q.1 s) (lightB q.1 s) (k : Int)
theorem trRng_all : (rowsOf.all fun q => [1, 5].all fun s => trRng q s) = true := by decide +kernel
theorem trT_len_all : (rowsOf.all fun q => [1, 5].all fun s => decide ((trT q.1 s).length = 6)) = true := by decide +kernel
section
variable {q : Nat × Int} (hq : q ∈ rowsOf) {s : Int} (hs : s = 1 ∨ s = 5)
include hq hs
theorem light_at : 3 * partOf q s 0 + 2 = lightR q.1 ∧ 3 * partOf q s 1 = lightG q.1 s ∧ 3 * partOf q s 2 = lightB q.1 s ∧ (0 ≤ lightR q.1 ∧ lightR q.1 < 1048576) ∧ (0 ≤ lightG q.1 s ∧ lightG q.1 s < 1048576) ∧ (0 ≤ lightB q.1 s ∧ lightB q.1 s < 1048576) ∧
    Float64.isFinite (sizeF (lightR q.1) (lightG q.1 s) (lightB q.1 s)) = true ∧ fint (sizeF (lightR q.1) (lightG q.1 s) (lightB q.1 s)) = q.1 := by
  have h := List.all_eq_true.mp (List.all_eq_true.mp tabL_all q hq) s (mem_s hs)
  simp only [tabL, lightOk, rngC, Bool.and_eq_true, decide_eq_true_eq] at h
  obtain ⟨a, b, c, ⟨d, e, f, g, i⟩, _⟩ := h
  exact ⟨a, b, c, d, e, f, g, i⟩
theorem trGood_at : ∀ j : Nat, j < 6 → trGood (lightR q.1) (lightG q.1 s) (lightB q.1 s) (j : Int) = true := fun j hj =>
  List.all_eq_true.mp (List.all_eq_true.mp (List.all_eq_true.mp trRng_all q hq) s (mem_s hs)) j (List.mem_range.mpr hj)
theorem traces_at : tracesL (lightR q.1) (lightG q.1 s) (lightB q.1 s) 6 = trT q.1 s := by
  have h := List.all_eq_true.mp (List.all_eq_true.mp tabL_all q hq) s (mem_s hs)
  simp only [tabL, Bool.and_eq_true] at h
  have hk := h.2.2.2.2
  have hl := List.all_eq_true.mp (List.all_eq_true.mp trT_len_all q hq) s (mem_s hs)
  simp only [decide_eq_true_eq] at hl
  apply List.ext_getElem
  · rw [hl]; unfold tracesL; simp
  · intro i h1 h2
    have hi : i < 6 := by rw [hl] at h2; exact h2
    have := List.all_eq_true.mp hk i (List.mem_range.mpr hi)
    simp only [trOk, Bool.and_eq_true, decide_eq_true_eq] at this
    have e := this.2.2.2.2.2.2
    have z : (tracesL (lightR q.1) (lightG q.1 s) (lightB q.1 s) 6)[i]? = some ((trT q.1 s).getD i 0) := by
      unfold tracesL
      rw [List.getElem?_map, List.getElem?_range hi, ← e]; rfl
    rw [List.getElem?_eq_getElem h1] at z
    rw [Option.some.inj z, List.getD_eq_getElem?_getD, List.getElem?_eq_getElem h2]; rfl
end
theorem want_cong {p : Nat} {hs tr : List Int} {a b a' b' : Int} (ha : hs.getD a.toNat 0 % 3 = hs.getD a'.toNat 0 % 3) (hb : hs.getD b.toNat 0 % 2 = hs.getD b'.toNat 0 % 2) : wantL p hs tr a b = wantL p hs tr a' b' := by
  unfold wantL
  congr 1
  apply List.map_congr_left
  intro j _
  have e : (startL p hs a b + 5 * hs.getD (j + 1) 0) % 6 = (startL p hs a' b' + 5 * hs.getD (j + 1) 0) % 6 := by
    unfold startL
    generalize hs.getD a.toNat 0 = x at *
    generalize hs.getD a'.toNat 0 = x' at *
    generalize hs.getD b.toNat 0 = y at *
    generalize hs.getD b'.toNat 0 = y' at *
    generalize hs.getD 2 0 = z
    generalize hs.getD (p - 1) 0 = z'
    generalize hs.getD (j + 1) 0 = z''
    omega
  rw [e]
theorem rest_at {q : Nat × Int} (hq : q ∈ rowsOf) {s : Int} (hs : s = 1 ∨ s = 5) {a b : Int} {w : Nat} (ha : 1 ≤ a ∧ a < q.1) (hb : 1 ≤ b ∧ b < q.1) (hw : 6 ≤ w ∧ w < 14) :
    wholeOk w q.1 (rowL q.1 a 3) (rowL q.1 b 2).reverse = true ∧ restW w q.1 (rowL q.1 a 3) (rowL q.1 b 2).reverse = wantL q.1 (huesL q.1 q.2 s) (trT q.1 s) a b := by
  have hc := List.all_eq_true.mp (List.all_eq_true.mp cls_all q hq) s (mem_s hs)
  have h1 := List.all_eq_true.mp hc (a - 1).toNat (List.mem_range.mpr (by omega))
  have h2 := List.all_eq_true.mp hc (b - 1).toNat (List.mem_range.mpr (by omega))
  rw [show (((a - 1).toNat : Nat) : Int) + 1 = a by omega] at h1
  rw [show (((b - 1).toNat : Nat) : Int) + 1 = b by omega] at h2
  have hA := (Bool.and_eq_true_iff.mp h1).1
  have hB := (Bool.and_eq_true_iff.mp h2).2
  unfold clsA at hA
  unfold clsB at hB
  obtain ⟨a', ma, ea⟩ := List.any_eq_true.mp hA
  obtain ⟨b', mb, eb⟩ := List.any_eq_true.mp hB
  simp only [Bool.and_eq_true, decide_eq_true_eq] at ea eb
  have ht := List.all_eq_true.mp (List.all_eq_true.mp (List.all_eq_true.mp (List.all_eq_true.mp (List.all_eq_true.mp tabW_all q hq) s (mem_s hs)) a' ma) b' mb) w (mem_w hw)
  simp only [tabW, Bool.and_eq_true, decide_eq_true_eq] at ht
  rw [ea.1, eb.1, want_cong ea.2 eb.2]
  exact ht
end Mine
end
section
open PySem PySem.W PyProof.Rows PySem.Calls
open PyProof.Rows.LCg
set_option maxRecDepth 100000
namespace Mine
local macro_rules | `(tactic| k_mem) => `(tactic| first | exact List.Mem.head _ | with_reducible assumption | (apply List.Mem.tail; k_mem))
local macro_rules | `(tactic| walk_at "call ref") => `(tactic| (k_here; refine Stop.mk ?_))
local macro_rules | `(tactic| walk_at "eval ListComp") => `(tactic| (k_here; refine Stop.mk ?_))
local macro_rules | `(tactic| walk_at "exec Assign cons ListComp") => `(tactic| (k_here; refine Stop.mk ?_))
local macro_rules | `(tactic| walk_at "pyIter ref") => `(tactic| (k_here; refine Stop.mk ?_))
local macro_rules | `(tactic| walk_at "CompEnd") => `(tactic| (refine Stop.mk ?_))
local macro_rules | `(tactic| walk_at "binaryOp Add ref ref") => `(tactic| (k_here; k_dflt (refine' cat_K ?k1 ?k2 ?k3 ?k4 ?k5 ?_; (case k1 => k_asm); (case k2 => k_asm); (case k3 => k_mem); (case k4 => k_mem); (case k5 => ((try simp only [List.length_drop, List.length_cons, List.length_nil]); first | with_reducible assumption | omega)); k_whole); intro D' h' F' N' l1; (try k_lt l1); (try k_sweep)))
local macro_rules | `(tactic| walk_at "call builtin:len") => `(tactic| (k_here; (with_reducible show wpAny _ _ (call (Value.builtin "len") [Value.ref _]) _ _ _); first | (k_dflt (refine' len_lK ?k1 ?k2 ?k3 ?_; (case k1 => k_asm); (case k2 => k_mem)); (case k3 => (show _; omega)); k_whole; intro _) | refine Stop.mk ?_))
local macro_rules | `(tactic| walk_at "subscriptTail List cons Slice ref ref") => `(tactic| (k_here; refine Stop.mk ?_))
local macro_rules | `(tactic| walk_at "subscriptTail") => `(tactic| (k_here; refine Stop.mk ?_))
local macro_rules | `(tactic| walk_at "subscriptTail Name Constant ref int") => `(tactic| (k_here; (with_reducible show wpAny _ _ (subscriptTail _ _ (Value.ref _) (Value.int _ _)) _ _ _); first | (k_dflt (refine' item_lK ?k1 ?k2 ?k3 ?k4 ?_ ?k5; (case k1 => k_asm); (case k2 => k_mem); (case k3 => decide); (case k4 => rfl); (case k5 => with_unfolding_all rfl); k_whole)) | refine Stop.mk ?_))
local macro_rules | `(tactic| walk_at "subscriptTail List BinOp ref int") => `(tactic| (k_here; refine Stop.mk ?_))
local macro_rules | `(tactic| walk_at "eval Name") => `(tactic| (k_here; (with_reducible show wpAny _ _ (eval (Expr.Name _ _) (compEnvC _ _ _ _)) _ _ _); k_dflt (refine' lcf_cell ?qN ?qc ?qm ?qd ?_ ?qa ?qb; (case qa => rfl); (case qb => rfl); (case qN => k_asm); (case qc => rfl); (case qm => k_mem); (case qd => k_asm); k_whole)))
theorem drop4 {h₀ h : Heap} {L : Addr} {p0 p1 p2 p3 : Addr × Obj} {T : Led} (N : News h₀ L h (p0 :: p1 :: p2 :: p3 :: T)) : News h₀ L h (p0 :: T) := fun p hp => by
  rcases List.mem_cons.mp hp with rfl | hp
  · exact N _ (.head _)
  · exact N _ (.tail _ (.tail _ (.tail _ (.tail _ hp))))
theorem five_pick {h₀ h : Heap} {L l a b c d e : Addr} {k : Nat} {x1 x2 x3 x4 x5 y1 y2 y3 y4 y5 : Tok} {T : Led}
    (N : News h₀ L h ((l, listOf #[.ref a, .ref b, .ref c, .ref d, .ref e] k) :: (e, tupObj [.int 37 x5, .int 2 y5]) :: (d, tupObj [.int 31 x4, .int 3 y4]) :: (c, tupObj [.int 19 x3, .int 2 y3]) :: (b, tupObj [.int 13 x2, .int 2 y2]) :: (a, tupObj [.int 7 x1, .int 3 y1]) :: T))
    (la : AllLt a T) (lb : @LT.lt Nat _ a b ∧ AllLt b T) (lc : @LT.lt Nat _ b c ∧ @LT.lt Nat _ a c ∧ AllLt c T) (ld : @LT.lt Nat _ c d ∧ @LT.lt Nat _ b d ∧ @LT.lt Nat _ a d ∧ AllLt d T) (le : @LT.lt Nat _ d e ∧ @LT.lt Nat _ c e ∧ @LT.lt Nat _ b e ∧ @LT.lt Nat _ a e ∧ AllLt e T)
    {i : Int} (hi : 0 ≤ i ∧ i < 5) : ∃ D q t t', [Value.ref a, .ref b, .ref c, .ref d, .ref e][i.toNat]? = some (.ref D) ∧ q ∈ rowsOf ∧ (∀ p ∈ T, p.1 < D) ∧ News h₀ L h ((D, tupObj [.int ((q.1 : Nat) : Int) t, .int q.2 t']) :: T) := by
  have z : i = 0 ∨ i = 1 ∨ i = 2 ∨ i = 3 ∨ i = 4 := by omega
  rcases z with rfl | rfl | rfl | rfl | rfl
  · exact ⟨a, (7, 3), x1, y1, rfl, by decide, allLt_ltOf la, news_tail (news_tail (news_tail (news_tail (news_tail N))))⟩
  · exact ⟨b, (13, 2), x2, y2, rfl, by decide, allLt_ltOf lb.2, news_hd (news_tail (news_tail (news_tail (news_tail N)))) fun _ h => .tail _ h⟩
  · exact ⟨c, (19, 2), x3, y3, rfl, by decide, allLt_ltOf lc.2.2, news_hd (news_tail (news_tail (news_tail N))) fun _ h => .tail _ (.tail _ h)⟩
  · exact ⟨d, (31, 3), x4, y4, rfl, by decide, allLt_ltOf ld.2.2.2, news_hd (news_tail (news_tail N)) fun _ h => .tail _ (.tail _ (.tail _ h))⟩
  · exact ⟨e, (37, 2), x5, y5, rfl, by decide, allLt_ltOf le.2.2.2.2, news_hd (news_tail N) fun _ h => .tail _ (.tail _ (.tail _ (.tail _ h)))⟩
theorem lamps_rng (hs : List Int) (own : Int) : ∀ n ∈ lampsL hs own, 0 ≤ n ∧ n < 256 := by
  intro n hn
  rw [lampsL] at hn
  rcases List.mem_cons.mp hn with rfl | hn
  · omega
  · obtain ⟨h, _, rfl⟩ := List.mem_map.mp hn
    split <;> omega
theorem drop5 {h₀ h : Heap} {L : Addr} {p0 p1 p2 p3 p4 p5 : Addr × Obj} {T : Led} (N : News h₀ L h (p0 :: p1 :: p2 :: p3 :: p4 :: p5 :: T)) : News h₀ L h T := news_tail (news_tail (news_tail (news_tail (news_tail (news_tail N)))))
local macro_rules | `(tactic| walk_at "compareOp NotEq ref ref") => `(tactic| (k_here; refine Stop.mk ?_))
local macro_rules | `(tactic| walk_at "compareOp Eq ref ref") => `(tactic| (k_here; refine Stop.mk ?_))
theorem ints3 {a b c : Int} {t u v : Tok} : IntsAre [.int a t, .int b u, .int c v] [a, b, c] := .cons _ _ (.cons _ _ (.cons _ _ .nil))
theorem isi_bytes {prog : Program} {w : World} {A : Around} {Q : Value → Shared → Prop} {E : Value → Shared → Prop} {s : Shared} {y : Array UInt8} {u : Tok} (h : ∀ tk, Q (.bool true) { s with toks := tk }) : wpAny (model prog w) A (call (.builtin "isinstance") [.bytes y u, .type "bytes"]) Q E s :=
  kia_one (K := []) (x := .bytes y u) kitx_bytes (fun _ _ h => by cases h) trivial (b := true) (by unfold kitOne; exact if_pos (by rfl)) (fun q => by cases q) h
local macro_rules | `(tactic| walk_at "call builtin:isinstance") => `(tactic| (k_here; refine isi_bytes ?_; intro _))
theorem hst_six {p : Nat} {r s : Int} : ∀ i, ∀ x ∈ (hst p r s i).1, 0 ≤ x ∧ x < 6
  | 0 => fun x hx => by rw [hst] at hx; have := List.eq_of_mem_replicate hx; omega
  | i + 1 => fun x hx => by
    rw [hst] at hx
    rcases List.mem_or_eq_of_mem_set hx with h | h
    · exact hst_six i x h
    · omega
theorem getD_rng {l : List Int} {a b : Int} (h : ∀ x ∈ l, a ≤ x ∧ x < b) (z : a ≤ 0 ∧ 0 < b) (i : Nat) : a ≤ l.getD i 0 ∧ l.getD i 0 < b := by
  rw [List.getD_eq_getElem?_getD]
  cases e : l[i]? with
  | none => exact z
  | some x => exact h x (List.mem_of_getElem? e)
theorem trT_all : (rowsOf.all fun q => [1, 5].all fun s => (trT q.1 s).all fun x => decide (-100 ≤ x ∧ x < 100)) = true := by decide +kernel
theorem trT_six {q : Nat × Int} (hq : q ∈ rowsOf) {s : Int} (hs : s = 1 ∨ s = 5) : (trT q.1 s).length = 6 ∧ ∀ i, -100 ≤ (trT q.1 s).getD i 0 ∧ (trT q.1 s).getD i 0 < 100 := by
  refine ⟨of_decide_eq_true (List.all_eq_true.mp (List.all_eq_true.mp trT_len_all q hq) s (mem_s hs)), fun i => getD_rng (fun x hx => ?_) (by decide) i⟩
  exact of_decide_eq_true (List.all_eq_true.mp (List.all_eq_true.mp (List.all_eq_true.mp trT_all q hq) s (mem_s hs)) x hx)
theorem listNC {vs : Array Value} {k : Nat} : ∀ v, (listOf vs k).data ≠ Data.cell v := by intro v h; cases h
theorem tupNC {vs : List Value} : ∀ v, (tupObj vs).data ≠ Data.cell v := by intro v h; cases h
theorem apart_of {c : Addr} : ∀ {l : Led}, (∀ p ∈ l, ∀ v, p.2.data ≠ Data.cell v) → ApartOr c l
  | [], _ => trivial
  | p :: r, h => ⟨.inr (h p (.head _)), apart_of fun q hq => h q (.tail _ hq)⟩
theorem tabs_apart {P P' : Addr} {Tb : Led} (hT : Tabs P P' Tb) (c : Addr) : ApartOr c Tb := by
  obtain ⟨A, B, rfl, hA, hB⟩ := hT
  have key : ∀ {P : Addr} {li co : Nat} {q : Str} {A : Led}, TabOk P li co q A → ∀ p ∈ A, ∀ v, p.2.data ≠ Data.cell v := by
    intro P li co q A hA p hp v
    rcases hA with rfl | ⟨c', oc, vs', t, rfl, hd', hv⟩
    · rcases List.mem_singleton.mp hp with rfl
      exact fun h => nomatch h
    · rcases List.mem_cons.mp hp with rfl | hp
      · exact fun h => nomatch h
      · rcases List.mem_singleton.mp hp with rfl
        rw [hd']
        exact fun h => nomatch h
  refine apart_of fun p hp => ?_
  rcases List.mem_append.mp hp with hp | hp
  · exact key hA p hp
  · exact key hB p hp
local macro_rules | `(tactic| walk_at "subscriptTail Name Name ref int") => `(tactic| (k_here; refine Stop.mk ?_))
local macro_rules | `(tactic| walk_at "subscriptTail Name BinOp ref int") => `(tactic| (k_here; refine Stop.mk ?_))
theorem rng_small {p : Nat} (hp : 2 ≤ p ∧ p < 38) : Builtin.Range.small 1 (p : Int) 1 = true := range_small' (by omega) (by omega) (by omega)
theorem rng_size {p : Nat} (hp : 2 ≤ p ∧ p < 38) : Builtin.Range.rangeSize 1 (p : Int) 1 = ((p - 1 : Nat) : Int) := by
  unfold Builtin.Range.rangeSize
  rw [if_pos (by decide), if_pos (by omega), Int.ediv_one]
  omega
theorem turn_rng {p j : Nat} (h : j < p - 1) (hp : 2 ≤ p ∧ p < 38) : 0 ≤ 1 + (j : Int) ∧ 1 + (j : Int) < 1000000 := by omega
theorem turn_lt {p j : Nat} (h : j < p - 1) : (1 + (j : Int)).toNat < p := by omega
theorem turn_eq (j : Nat) : (1 + (j : Int)).toNat = j + 1 := by omega
theorem mod6_rng (x : Int) : (0 ≤ x.fmod 6 ∧ x.fmod 6 < 1000000) ∧ (x.fmod 6).toNat < 6 ∧ x.fmod 6 = x % 6 := by
  rw [Int.fmod_eq_emod_of_nonneg _ (by decide)]
  refine ⟨?_, ?_, rfl⟩ <;> omega
local macro_rules | `(tactic| walk_at "callWith ref nil nil") => `(tactic| (k_here; k_dflt (refine' callWith_K ?k1 ?k2 ?_; (case k1 => k_asm); (case k2 => k_is); k_whole)))
theorem eqints_T {prog : Program} {w : World} {A : Around} {E : Value → Shared → Prop} {s : Shared} {h₀ : Heap} {L : Addr} {news : Led} {l l' : Addr} {vs vs' : List Value} {ns : List Int} {k k' : Nat} {Q : Value → Shared → Prop} (N : News h₀ L s.heap news) (hl : (l, listOf vs.toArray k) ∈ news) (hl' : (l', listOf vs'.toArray k') ∈ news) (hi : IntsAre vs ns) (hj : IntsAre vs' ns) (hu : A.units + 64 < cLine) (h : Q (.bool true) s) :
    wpAny (model prog w) A (compareOp .Eq (.ref l) (.ref l')) Q E s := eqints_K N hl hl' hi hj hu (by rw [decide_eq_true rfl]; exact h)
theorem grown_tab {h₀ h : Heap} {L P : Addr} {li co : Nat} {q : Str} {A news : Led} (T : TabOk P li co q A) (N : News h₀ L h news) (hs : ∀ p ∈ A, p ∈ news) : GrownAt P h := by
  rcases T with rfl | ⟨c', oc, vs, t, rfl, _, _⟩
  · exact GrownAt.of N (hs _ (.head _))
  · exact GrownAt.of N (hs _ (.head _))
theorem grown_tabs {h₀ h : Heap} {L P P' a b : Addr} {Tb news : Led} (T : Tabs P P' Tb) (N : News h₀ L h news) (hs : ∀ p ∈ Tb, p ∈ news) : GrownAll [(a, P), (b, P')] h := by
  obtain ⟨A, B, rfl, hA, hB⟩ := T
  exact ⟨grown_tab hA N fun p hp => hs p (List.mem_append_left _ hp), grown_tab hB N fun p hp => hs p (List.mem_append_right _ hp), trivial⟩
theorem rowSt_bd {p : Nat} {a : Int} {e : Nat} : ∀ i, ∀ x ∈ rowSt p a e i, 0 ≤ x ∧ x < (i : Int) + 1
  | 0 => fun x hx => by rw [rowSt] at hx; have := List.eq_of_mem_replicate hx; omega
  | i + 1 => fun x hx => by
    rw [rowSt] at hx
    rcases List.mem_or_eq_of_mem_set hx with h | h
    · have := rowSt_bd i x h; omega
    · have := getD_rng (rowSt_bd (p := p) (a := a) (e := e) i) (by omega) (a * (i : Int) ^ e % p).toNat
      omega
theorem rowL_rng {p : Nat} {a : Int} {e : Nat} (hp : 2 ≤ p ∧ p < 38) : ∀ x ∈ rowL p a e, 0 ≤ x ∧ x < 64 := fun x hx => by
  have := rowSt_bd p x hx
  omega
theorem news_two {h₀ h : Heap} {L : Addr} {a b : Addr × Obj} {T R : Led} (N : News h₀ L h (a :: R)) (hb : b ∈ R) (hT : ∀ p ∈ T, p ∈ R) : News h₀ L h ([a, b] ++ T) := fun p hp => by
  rcases List.mem_cons.mp hp with rfl | hp
  · exact N _ (.head _)
  · rcases List.mem_cons.mp hp with rfl | hp
    · exact N _ (.tail _ hb)
    · exact N _ (.tail _ (hT p hp))
theorem cat_room {a b p : Nat} (h : a = b) (h2 : b = p - 1) (hp : 2 ≤ p ∧ p < 38) : a + (0 + 1) < 1000000 := by omega
theorem post01 (xs : List Int) : PySem.Challenge.rw_wf0044_01.row.claim.post [ofPy (PyData.list (List.map PyData.int xs))] (WData.bool true) [ofPy (PyData.list (List.map PyData.int xs))] = true := by wrow_post
theorem hue_small {x : Int} (h : 0 ≤ x ∧ x < 6) : -1000000000 < x ∧ x < 1000000000 := by omega
theorem idx_rng {p : Nat} {i : Int} (h : 1 ≤ i ∧ i < (p : Int)) (hp : p < 38) : 0 ≤ i ∧ i < 1000000 := by omega
theorem idx_lt {p : Nat} {i : Int} (h : 1 ≤ i ∧ i < (p : Int)) : i.toNat < p := by omega
local macro_rules | `(tactic| walk_at "binaryOp Mult int int") => `(tactic| (k_here; first | refine mul_K (small_int (by decide)) (small_int (hue_small (by with_reducible assumption))) ?_ | refine mul_K (small_int (by omega)) (small_int (by omega)) ?_))
theorem bs_rev (w : World) (loose mean mg mb) (T : Led) (b : Array UInt8) (p : Nat) (t1 t2 : Tok) (hb : b.size = p) (hp : 0 < p ∧ p < 1000) :
   SpecX PySem.Challenge.pw_wf0044_01 w (Mine.hd.heap_39 w.params) topProg loose mean mg mb 5 20 77 [.bytes b t1, .int (p : Int) t2] T (fun v new => ∃ b' t, v = .bytes b' t ∧ b' = b.reverse ∧ new = []) := by
  subst hb
  have h := bs_spec w loose mean mg mb T b (b.size : Int) t1 t2 hp ⟨by omega, by omega⟩ 1 (by omega)
  rw [Int.toNat_natCast, bsw_all] at h
  intro dp un gd cn cs a ccd cl outer A₀ base h₀ L m s Q E B F X N Tp hk hd hu hret
  refine h dp un gd cn cs a ccd cl outer A₀ base h₀ L m s Q E B F X N Tp hk hd hu fun r new h' tk' F' N' l' hp => ?_
  obtain ⟨t, rfl, rfl⟩ := hp
  exact hret _ _ _ _ F' N' l' ⟨_, t, rfl, rfl, rfl⟩
theorem lamps_64 (hs : List Int) (own : Int) : ∀ n ∈ lampsL hs own, 0 ≤ n ∧ n < 64 := by
  intro n hn
  rw [lampsL] at hn
  rcases List.mem_cons.mp hn with rfl | hn
  · omega
  · obtain ⟨h, _, rfl⟩ := List.mem_map.mp hn
    split <;> omega
theorem split7 {h₀ h : Heap} {L : Addr} {a b c d e f g : Addr × Obj} {T : Led} {G : Prop} (N : News h₀ L h (a :: b :: c :: d :: e :: f :: g :: T)) (k : ∀ R, R = [a, b, c, d, e, f, g] → News h₀ L h (R ++ T) → G) : G := k _ rfl N
theorem cell0 {o : Obj} {v : Option Value} (h : o.data = Data.cell v) (e : v = none) : o.data = Data.cell none := by rw [h, e]
theorem with_led {h₀ h : Heap} {L : Addr} {T : Led} {G : Prop} (N : News h₀ L h T) (k : ∀ W, W = T → News h₀ L h W → G) : G := k T rfl N
theorem rows_rng {q : Nat × Int} (h : q ∈ rowsOf) : (2 ≤ q.1 ∧ q.1 < 38) ∧ (0 ≤ q.2 ∧ q.2 < 10) :=
  (by decide : ∀ q ∈ rowsOf, (2 ≤ q.1 ∧ q.1 < 38) ∧ (0 ≤ q.2 ∧ q.2 < 10)) q h
set_option maxHeartbeats 8000000 in
theorem law01 : PySem.Challenge.rw_wf0044_01.Holds := by
  refine hd ?_
  k_fill
  intro w s₀ s₁ mg mb G Y fa o pm cd doc dV kV ho hd hcd hD hmg hg args vals as hpre hlay hrd hwl hlo
  have KX := km_in_of Y
  km_tabs Y
  have X := (Ground.X G).1
  have V := (Ground.X G).2
  refine Ground.open G ?_
  intro T B D TE TW
  try (refine guard_noD D (by decide +kernel) ?_; clear D)
  km_lay T hmg ho hd cd
  clear hmg
  wrow_args hpre hlay hrd hwl hlo
  refine enter_callX ?_
  w_top on
  refine kn_postX hT9 (fun _ _ => rfl) ?_
  have he := Dflts.none hD rfl; subst he; have he := Dflts.noKw hD; subst he
  refine call_cellsX (by decide) ho (fd_plain hd) (Top.nolimit T) hcd rfl (kinds_of (by kinds_ok)) (by decide) fun h₁ tk₁ cells F N0 X0 => ?_
  cells_open X0
  rename Obj.data _ = _ => g1
  replace g1 := cell0 g1 (by with_unfolding_all rfl)
  revert g1
  rename Obj.data _ = _ => g1
  replace g1 := cell0 g1 (by with_unfolding_all rfl)
  revert g1
  rename Obj.data _ = _ => g1
  replace g1 := cell0 g1 (by with_unfolding_all rfl)
  revert g1
  rename Obj.data _ = _ => g1
  replace g1 := cell0 g1 (by with_unfolding_all rfl)
  revert g1
  rename Obj.data _ = _ => g1
  replace g1 := cell0 g1 (by with_unfolding_all rfl)
  intro g2 g3 g4 g5
  clear hd
  kn_ghosts F T
  k_drop
  clear G Y ho hcd hT8 X V T B TE TW hD X0
  rename Heap.IsList (ghostOf _ _) _ _ => hl0
  rename IntsAre _ _ => hI0
  refine wpX_execs_cons (wpX_of_any ?_)
  k_steps
  refine Stop.in ?_
  k_dflt (refine Assign_ListComp_W (by k_asm) (by rfl) (by rfl) (by rfl) (by decide) (by rfl) (by decide) (by rfl) (by rfl) (by rfl) ?_)
  k_steps
  refine Stop.in ?_
  rename IntsAre _ (List.take 4 _) => hI4
  rename (List.take 4 _).length = _ => hC4
  refine blk_list rfl (by k_asm) (by k_asm) (List.Mem.head _) (by rw [hI4.length, hC4]; omega) fun gh => ?_
  generalize hT4 : List.take 4 _ = d4 at *
  refine comp_ints (fun j => d4.getD j 0 % 1000000) ?_ ?_
  · intro j v ys I2 oI C oC D2 m₂ h2 tk2 E' hj hP hC hx2 F6 N6 off6 ne6
    obtain ⟨c, u, rfl, hdc⟩ := IntsAre.at hI4 j v hP
    have hg := hdc
    k_steps
    refine Stop.in ?_
    refine CompEnd.fin0 (by assumption) (by assumption) off6 (List.Mem.head _) ?_
    rw [List.getD_eq_getElem?_getD, hdc, Int.fmod_eq_emod_of_nonneg _ (by decide)]
    rfl
  · intro ys hys
    unfold FinA
    intro D3 h3 tk3 F3 N3 o3
    replace o3 := off1_of o3
    have n1 : @Ne Nat D3 _ := Ne.symm (o3 _ (.head _))
    have n2 : @Ne Nat D3 _ := Ne.symm (o3 _ (.tail _ (.head _)))
    have n3 : @Ne Nat D3 _ := Ne.symm (o3 _ (.tail _ (.tail _ (.head _))))
    have n4 : @Ne Nat D3 _ := Ne.symm (o3 _ (.tail _ (.tail _ (.tail _ (.head _)))))
    have n5 : @Ne Nat D3 _ := Ne.symm (o3 _ (.tail _ (.tail _ (.tail _ (.tail _ (.head _))))))
    have n6 : @Ne Nat D3 _ := Ne.symm (o3 _ (.tail _ (.tail _ (.tail _ (.tail _ (.tail _ (.head _)))))))
    have n7 : @Ne Nat D3 _ := Ne.symm (o3 _ (.tail _ (.tail _ (.tail _ (.tail _ (.tail _ (.tail _ (.head _))))))))
    have n8 : @Ne Nat D3 _ := Ne.symm (o3 _ (.tail _ (.tail _ (.tail _ (.tail _ (.tail _ (.tail _ (.tail _ (.head _)))))))))
    replace N3 := news_hd N3 (fun q hq => List.Mem.tail _ hq)
    clear n1
    rename @LT.lt Nat _ _ _ ∧ @LT.lt Nat _ _ _ ∧ _ => zz
    clear zz
    rw [hI4.length, range_getD (g := fun c => c % 1000000)] at hys
    dsimp only
    refine wpX_execs_cons (wpX_of_any ?_)
    have hyl : ys.length ≤ 4 := by rw [hys.length, List.length_map]; omega
    k_steps
    refine Stop.in ?_
    k_dflt (refine' slice_tmpK (a := ys.length) ?k1 ?k2 ?k3 ?k4 ?k5 ?_ ?k6; (case k1 => k_asm); (case k2 => k_asm); (case k3 => exact List.Mem.head _); (case k4 => exact hyl); (case k5 => exact Nat.le_of_ble_eq_true rfl); (case k6 => with_unfolding_all rfl); k_whole)
    intro D5 h5 F5 N5 l5
    (try k_lt l5)
    k_steps
    dsimp only
    rename Fr _ _ _ _ => FA
    rename News _ _ _ _ => NA
    obtain ⟨c0, c1, c2, c3, t0, t1, t2, t3, hcs, r0, r1, r2, r3⟩ := cells_four (q0 := 1) (q1 := 0) (q2 := 0) (q3 := 0) (ta := _) (tb := _) (tc := _) (td := _) hys hyl (by decide)
    rw [hcs] at NA
    clear hcs hys
    have NB := drop4 NA
    clear NA
    apply name1 NB
    intro Dc hDc
    subst hDc
    clear n2 n3 n4 n5 n6 n7 n8 o3
    rename _ < D5 ∧ _ => z5
    clear z5
    rename D3 < _ ∧ _ => z3
    clear z3
    refine wpX_execs_cons ?_
    refine wpX_of_any ?_
    k_steps
    refine Stop.in ?_
    rename News _ _ _ _ => NP
    have hr5 : 0 ≤ c0.fmod 5 ∧ c0.fmod 5 < 5 := by rw [Int.fmod_eq_emod_of_nonneg _ (by decide)]; omega
    obtain ⟨Dq, q, tq, tq', hq1, hq, lq, NQ⟩ := five_pick NP (by simp only [AllLt, and_true]; with_reducible assumption) (by simp only [AllLt, and_true]; with_reducible assumption) (by simp only [AllLt, and_true]; with_reducible assumption) (by simp only [AllLt, and_true]; with_reducible assumption) (by simp only [AllLt, and_true]; with_reducible assumption) hr5
    k_lt lq
    refine item_lK NP (k := 0) (.head _) ⟨hr5.1, by omega⟩ hq1 ?_
    clear NP hq1
    k_steps
    obtain ⟨hp, hrt⟩ := rows_rng hq
    obtain ⟨sn, hsn⟩ : ∃ sn, sn = 1 + 4 * (c0.fdiv 5).fmod 2 := ⟨_, rfl⟩
    have hs15 : 1 + 4 * (c0.fdiv 5).fmod 2 = 1 ∨ 1 + 4 * (c0.fdiv 5).fmod 2 = 5 := by
      rw [Int.fmod_eq_emod_of_nonneg _ (by decide)]; omega
    rename News _ _ _ _ => NP
    replace NP := news_tail NP
    iterate 6 (rename @LT.lt Nat _ _ _ ∧ @LT.lt Nat _ _ _ ∧ _ => zz; clear zz)
    refine wpX_execs_cons ?_
    refine wpX_of_any ?_
    k_steps
    refine Stop.in ?_
    rename News _ _ _ _ => NQ
    apply with_led NQ
    intro W hW NW
    k_dflt (refine' specT_use (hues_spec w _ _ mg mb W q.1 q.2 _ _ _ _ hp hrt hs15) ?k1 ?k2 ?k3 ?k4 ?k5 ?kK ?ks ?kd ?ku ?_; (case k1 => k_asm); (case k2 => k_asm); (case k3 => k_asm); (case k4 => k_asm); (case k5 => k_asm); (case kK => exact rfl); (case ks => exact fun _ h => h))
    case kd => ktr_room
    case ku => ktr_units
    rintro rv6 T6 h6 tk6 F6 N6 ⟨Dh, hv, kh, rfl, rfl, neh, hih⟩
    obtain ⟨hs, hhs⟩ : ∃ hs, hs = huesL q.1 q.2 (1 + 4 * (c0.fdiv 5).fmod 2) := ⟨_, rfl⟩
    rw [← hhs] at hih
    have hsl : hs.length = q.1 := by rw [hhs, huesL, hst_len]
    have hvl : hv.length = q.1 := by rw [hih.length, hsl]
    have hv1 : 1 ≤ hv.length := by omega
    have hv2 : hv.length ≤ 1000000 := by omega
    subst hW
    have a1 : @Ne Nat Dh _ := Ne.symm (neh _ (.tail _ (.head _)))
    have a2 : @Ne Nat Dh _ := Ne.symm (neh _ (.tail _ (.tail _ (.head _))))
    have a3 : @Ne Nat Dh _ := Ne.symm (neh _ (.tail _ (.tail _ (.tail _ (.head _)))))
    have a4 : @Ne Nat Dh _ := Ne.symm (neh _ (.tail _ (.tail _ (.tail _ (.tail _ (.head _))))))
    have a5 : @Ne Nat Dh _ := Ne.symm (neh _ (.tail _ (.tail _ (.tail _ (.tail _ (.tail _ (.head _)))))))
    have a6 : @Ne Nat Dh _ := Ne.symm (neh _ (.head _))
    k_steps
    refine wpX_execs_cons ?_
    refine wpX_of_any ?_
    k_steps
    refine wpX_execs_cons ?_
    refine wpX_of_any ?_
    k_steps
    refine wpX_execs_cons ?_
    refine wpX_of_any ?_
    k_steps
    refine Stop.in ?_
    k_dflt (refine ListComp_W (by k_asm) (by rfl) (by decide) (by rfl) (by decide) (by rfl) ?_)
    k_steps
    refine Stop.in ?_
    rename IntsAre _ (List.drop _ hs) => hiD
    refine blk_list rfl (by k_asm) (by k_asm) (List.Mem.head _) (by rw [hiD.length, List.length_drop]; omega) fun gh => ?_
    refine comp_ints (fun j => if (hs.drop 1).getD j 0 % 3 = c3 % 3 then 1 else 0) ?_ ?_
    · intro j v ys I2 oI C oC D2 m₂ h2 tk2 E' hj hP hC hx2 F6 N6 off6 ne6
      obtain ⟨c, u, rfl, hdc⟩ := IntsAre.at hiD j v hP
      k_steps
      all_goals refine Stop.in ?_
      all_goals refine CompEnd.fin0 F6 N6 off6 (List.Mem.head _) ?_
      · have hcn : c.fmod 3 = c3.fmod 3 := by with_reducible assumption
        rw [Int.fmod_eq_emod_of_nonneg _ (by decide), Int.fmod_eq_emod_of_nonneg _ (by decide)] at hcn
        rw [List.getD_eq_getElem?_getD, hdc]
        exact (if_pos hcn).symm
      · have hcn : c.fmod 3 ≠ c3.fmod 3 := by with_reducible assumption
        rw [Int.fmod_eq_emod_of_nonneg _ (by decide), Int.fmod_eq_emod_of_nonneg _ (by decide)] at hcn
        rw [List.getD_eq_getElem?_getD, hdc]
        exact (if_neg hcn).symm
    · intro ys hys
      unfold FinE
      intro D9 h9 tk9 F9 N9 o9
      replace o9 := off1_of o9
      rw [hiD.length, range_getD (g := fun c => if c % 3 = c3 % 3 then 1 else 0)] at hys
      have hyl2 : ys.length < 100 := by rw [hys.length, List.length_map, List.length_drop]; omega
      k_steps
      refine bytesL_K rfl (by k_asm) (by k_asm) (List.Mem.head _) (IntsAre.cons 0 _ hys) (lamps_rng hs (c3 % 3)) (by show ys.length + 1 ≤ 1000000; omega) fun b1 tb1 h10 tk10 eb1 sb1 F10 N10 => ?_
      replace N10 := drop5 N10
      iterate 5 (rename @LT.lt Nat _ _ _ ∧ @LT.lt Nat _ _ _ ∧ _ => zz; clear zz)
      clear o9 hiD
      k_steps
      have hs15 : 1 + 4 * (c0.fdiv 5).fmod 2 = 1 ∨ 1 + 4 * (c0.fdiv 5).fmod 2 = 5 := hs15
      have hown : 0 ≤ c3 % 3 ∧ c3 % 3 < 3 := by omega
      have hwn : 6 ≤ 6 + (c3.fdiv 3).fmod 8 ∧ 6 + (c3.fdiv 3).fmod 8 < 14 := by rw [Int.fmod_eq_emod_of_nonneg _ (by decide)]; omega
      have hwt : 6 ≤ (6 + (c3.fdiv 3).fmod 8).toNat ∧ (6 + (c3.fdiv 3).fmod 8).toNat < 14 := by omega
      have eb2 : PySem.W.KBw.bInts b1 = lampsOf q (1 + 4 * (c0.fdiv 5).fmod 2) (c3 % 3) := by rw [lampsOf, ← hhs]; exact eb1
      have sb2 : b1.size = q.1 := by rw [sb1, List.length_cons, List.length_map, List.length_drop, hsl]; omega
      have hl64 : ∀ d ∈ lampsOf q (1 + 4 * (c0.fdiv 5).fmod 2) (c3 % 3), 0 ≤ d ∧ d < 64 := lamps_64 _ _
      obtain ⟨tA1, tA2⟩ := tabA_at hq hs15 hown hwt
      refine wpX_execs_cons ?_
      refine wpX_of_any ?_
      k_steps
      refine Stop.in ?_
      rename News _ _ _ _ => NQ
      apply split7 NQ
      intro R hR NR
      have cR : Cl R := by
        rw [hR]
        exact Cl.cons (by simp) (Cl.cons (by simp) (Cl.cell (by with_reducible assumption) (Cl.cell (by with_reducible assumption) (Cl.cell (by with_reducible assumption) (Cl.cell (by with_reducible assumption) (Cl.cell (by with_reducible assumption) Cl.nil))))))
      k_dflt (refine' specT_use (rest_spec w _ _ mg mb R _ tabs_start cR b1 b1 _ _ _ q.1 _ _ _ eb2 eb2 sb2 sb2 hl64 hl64 hp hwn tA1) ?k1 ?k2 ?k3 ?k4 ?k5 ?kK ?ks ?kd ?ku ?_; (case k1 => k_asm); (case k2 => k_asm); (case k3 => k_asm); (case k4 => k_asm); (case k5 => k_asm); (case kK => exact rfl); (case ks => exact fun _ h => h))
      case kd => ktr_room
      case ku => ktr_units
      rintro rv11 T11 h11 tk11 F11 N11 ⟨Df, fv, kf, Tb, rfl, hif, nef, rfl, hTb⟩
      rw [tA2] at hif
      subst hR
      replace N11 : News _ _ _ (_ :: _ :: _ :: _ :: _ :: _ :: _ :: _ :: Tb) := N11
      have eo : c3.fmod 3 = c3 % 3 := Int.fmod_eq_emod_of_nonneg _ (by decide)
      obtain ⟨tB1, tB2, tB3⟩ := tabB_at hq hs15 hown
      have hfl : (figL q (1 + 4 * (c0.fdiv 5).fmod 2) (c3 % 3)).length = hs.length := by rw [figL, restW, digs_len, hsl]
      have hok : ∀ t : Int, 0 ≤ t ∧ t < 3 → toldP (figL q (1 + 4 * (c0.fdiv 5).fmod 2) (c3 % 3)) hs (c3.fmod 3) t ≠ [] ∧ ∀ x ∈ toldP (figL q (1 + 4 * (c0.fdiv 5).fmod 2) (c3 % 3)) hs (c3.fmod 3) t, x = partOf q (1 + 4 * (c0.fdiv 5).fmod 2) t := by
        rw [eo, hhs]; exact tB1
      k_steps
      refine wpX_execs_cons ?_
      refine wpX_of_any ?_
      k_steps
      refine Stop.in ?_
      rename News _ _ _ _ => NQ2
      apply with_led NQ2
      intro W hW NW
      k_dflt (refine' specT_use (parts_spec w _ _ mg mb W Df Dh kf kh fv hv _ hs _ _ (partOf q (1 + 4 * (c0.fdiv 5).fmod 2)) (by rw [hW]; exact .head _) (by rw [hW]; exact .tail _ (.head _)) hif hih hfl ⟨by omega, by omega⟩ hok) ?k1 ?k2 ?k3 ?k4 ?k5 ?kK ?ks ?kd ?ku ?_; (case k1 => k_asm); (case k2 => k_asm); (case k3 => k_asm); (case k4 => k_asm); (case k5 => k_asm); (case kK => exact rfl); (case ks => exact fun _ h => h))
      case kd => ktr_room
      case ku => ktr_units
      rintro rv12 T12 h12 tk12 F12 N12 ⟨Dp, pv, kp, rfl, rfl, nep, hip⟩
      subst hW
      k_steps
      refine wpX_execs_cons ?_
      refine wpX_of_any ?_
      k_steps
      refine Stop.in ?_
      rename News _ _ _ _ => NE
      refine eqints_K NE (vs' := []) (k' := 0) (.tail _ (.head _)) (.head _) hip .nil (by ke_room) ?_
      rw [decide_eq_false (by simp)]
      k_steps
      refine Stop.in ?_
      obtain ⟨tz0, hz0⟩ := int_at hif (i := (0 : Int).toNat) (by rw [hfl]; show 0 < _; omega)
      rw [show (figL q (1 + 4 * (c0.fdiv 5).fmod 2) (c3 % 3)).getD (0 : Int).toNat 0 = ((q.1 : Int) - 1) / 3 from tB2] at hz0
      refine item_lK (by k_asm) (k := kf) (vs := fv) (.tail _ (.tail _ (.head _))) ⟨by decide, by decide⟩ hz0 ?_
      k_steps
      dsimp only
      rename News _ _ _ _ => NE2
      replace NE2 := news_tail NE2
      iterate 1 (rename @LT.lt Nat _ _ _ ∧ @LT.lt Nat _ _ _ ∧ _ => zz; clear zz)
      have h7 : 7 ≤ q.1 := (by decide : ∀ q ∈ rowsOf, 7 ≤ q.1) q hq
      refine wpX_execs_cons ?_
      refine wpX_of_any ?_
      k_steps
      refine Stop.in ?_
      k_dflt (refine ListComp_W (by k_asm) (by rfl) (by decide) (by rfl) (by decide) (by rfl) ?_)
      k_steps
      refine Stop.in ?_
      refine blk_list rfl (by k_asm) (by k_asm) (List.Mem.head _) (by rw [hip.length]; exact Nat.le_of_ble_eq_true rfl) fun gh => ?_
      refine comp_ints (fun j => [partOf q (1 + 4 * (c0.fdiv 5).fmod 2) 0, partOf q (1 + 4 * (c0.fdiv 5).fmod 2) 1, partOf q (1 + 4 * (c0.fdiv 5).fmod 2) 2].getD j 0 % 2) ?_ ?_
      · intro j v ys I2 oI C oC D2 m₂ h2 tk2 E' hj hP hC hx2 F6 N6 off6 ne6
        obtain ⟨c, u, rfl, hdc⟩ := IntsAre.at hip j v hP
        k_steps
        refine Stop.in ?_
        refine CompEnd.fin0 F6 N6 off6 (List.Mem.head _) ?_
        rw [List.getD_eq_getElem?_getD, hdc, Int.fmod_eq_emod_of_nonneg _ (by decide)]
        rfl
      · intro ys1 hys1
        unfold FinE
        intro D13 h13 tk13 F13 N13 o13
        replace o13 := off1_of o13
        rw [hip.length, range_getD (g := fun c => c % 2)] at hys1
        k_steps
        refine Stop.in ?_
        k_dflt (refine ListComp_W (by k_asm) (by rfl) (by decide) (by rfl) (by decide) (by rfl) ?_)
        k_steps
        refine Stop.in ?_
        refine blk_range (n := 3) rfl (by k_asm) (by k_asm) (by assumption) (by decide) (by decide) (by decide) fun gh2 => ?_
        refine comp_ints (fun j => if (j : Int) = hs.getD 2 0 % 3 then 1 else 0) ?_ ?_
        · intro j v ys I2 oI C oC D2 m₂ h2 tk2 E' hj hP hC hx2 F6 N6 off6 ne6
          obtain ⟨tj, rfl⟩ := hP
          obtain ⟨tz2, hz2⟩ := int_at hih (i := (2 : Int).toNat) (by rw [hsl]; show 2 < _; omega)
          k_steps
          refine Stop.in ?_
          refine item_lK N6 (k := kh) (vs := hv) (by k_mem) ⟨by decide, by decide⟩ hz2 ?_
          k_steps
          all_goals refine Stop.in ?_
          all_goals refine CompEnd.fin0 F6 N6 off6 trivial ?_
          · have hcn : 0 + (j : Int) = (hs.getD (2 : Int).toNat 0).fmod 3 := by with_reducible assumption
            rw [Int.fmod_eq_emod_of_nonneg _ (by decide), Int.zero_add] at hcn
            exact (if_pos hcn).symm
          · have hcn : 0 + (j : Int) ≠ (hs.getD (2 : Int).toNat 0).fmod 3 := by with_reducible assumption
            rw [Int.fmod_eq_emod_of_nonneg _ (by decide), Int.zero_add] at hcn
            exact (if_neg hcn).symm
        · intro ys2 hys2
          unfold FinE
          intro D14 h14 tk14 F14 N14 o14
          replace o14 := off1_of o14
          obtain ⟨e0, e1, e2, hlr, hlg, hlb, hfin, hsz⟩ := light_at hq hs15
          rw [← e0] at hlr hfin hsz
          rw [← e1] at hlg hfin hsz
          rw [← e2] at hlb hfin hsz
          have hE : ([partOf q (1 + 4 * (c0.fdiv 5).fmod 2) 0, partOf q (1 + 4 * (c0.fdiv 5).fmod 2) 1, partOf q (1 + 4 * (c0.fdiv 5).fmod 2) 2].map fun c => c % 2) = (List.range 3).map fun (j : Nat) => if (j : Int) = hs.getD 2 0 % 3 then (1 : Int) else 0 := by
            rw [← hhs] at tB3
            exact tB3
          k_steps
          refine Stop.in ?_
          refine neints_F N14 (vs := ys1) (k := ys1.length) (vs' := ys2) (k' := ys2.length) (.tail _ (.head _)) (.head _) hys1 hys2 hE (by ke_room) ?_
          k_steps
          dsimp only
          rename News _ _ _ _ => NE3
          replace NE3 := news_tail (news_tail NE3)
          clear hE tB3 hys1 hys2 o14 o13
          generalize partOf q (1 + 4 * (c0.fdiv 5).fmod 2) 0 = P0 at *
          generalize partOf q (1 + 4 * (c0.fdiv 5).fmod 2) 1 = P1 at *
          generalize partOf q (1 + 4 * (c0.fdiv 5).fmod 2) 2 = P2 at *
          cases hip with | cons _ tp0 hip => cases hip with | cons _ tp1 hip => cases hip with | cons _ tp2 hip => cases hip with | nil =>
          refine wpX_execs_cons ?_
          refine wpX_of_any ?_
          k_steps
          refine wpX_execs_cons ?_
          refine wpX_of_any ?_
          k_steps
          refine Stop.in ?_
          rename News _ _ _ _ => NQ3
          apply name1 NQ3
          intro Dl hDl
          subst hDl
          apply with_led NQ3
          intro W2 hW2 NW2
          k_dflt (refine' spec_use (size_spec w _ _ mg mb W2 Dl 0 _ (3 * P0 + 2) (3 * P1) (3 * P2) (by rw [hW2]; exact .head _) ints3 hlr hlg hlb hfin) ?k1 ?k2 ?k3 ?k4 ?k5 ?kK ?kd ?ku ?_; (case k1 => k_asm); (case k2 => k_asm); (case k3 => k_asm); (case k4 => k_asm); (case k5 => k_asm); (case kK => exact rfl))
          case kd => ktr_room
          case ku => ktr_units
          rintro rv15 n15 h15 tk15 F15 N15 l15 ⟨⟨u15, rfl⟩, rfl⟩
          clear l15
          subst hW2
          replace N15 : News _ _ _ (_ :: _) := N15
          rw [hsz]
          k_steps
          dsimp only
          have ha38 : 0 ≤ 1 + c1.fmod ((q.1 : Int) - 1) ∧ 1 + c1.fmod ((q.1 : Int) - 1) < 38 := by
            rw [Int.fmod_eq_emod_of_nonneg _ (by omega)]
            have z1 := Int.emod_nonneg c1 (show (q.1 : Int) - 1 ≠ 0 by omega)
            have z2 := Int.emod_lt_of_pos c1 (show 0 < (q.1 : Int) - 1 by omega)
            omega
          have hb38 : 0 ≤ 1 + c2.fmod ((q.1 : Int) - 1) ∧ 1 + c2.fmod ((q.1 : Int) - 1) < 38 := by
            rw [Int.fmod_eq_emod_of_nonneg _ (by omega)]
            have z1 := Int.emod_nonneg c2 (show (q.1 : Int) - 1 ≠ 0 by omega)
            have z2 := Int.emod_lt_of_pos c2 (show 0 < (q.1 : Int) - 1 by omega)
            omega
          refine wpX_execs_cons ?_
          refine wpX_of_any ?_
          k_steps
          refine Stop.in ?_
          rename News _ _ _ _ => NQ4
          apply with_led NQ4
          intro W3 hW3 NW3
          k_dflt (refine' specT_use (rows_spec w _ _ mg mb W3 q.1 (1 + c1.fmod ((q.1 : Int) - 1)) (1 + c2.fmod ((q.1 : Int) - 1)) _ _ _ hp ha38 hb38) ?k1 ?k2 ?k3 ?k4 ?k5 ?kK ?ks ?kd ?ku ?_; (case k1 => k_asm); (case k2 => k_asm); (case k3 => k_asm); (case k4 => k_asm); (case k5 => k_asm); (case kK => exact rfl); (case ks => exact fun _ h => h))
          case kd => ktr_room
          case ku => ktr_units
          rintro rv16 T16 h16 tk16 F16 N16 ⟨Dr, bx, by', tbx, tby, rfl, rfl, ltr, ebx, eby⟩
          subst hW3
          k_steps
          dsimp only
          have sby : by'.size = q.1 := by rw [bInts_size eby, rowL, rowSt_len]
          have sbx : bx.size = q.1 := by rw [bInts_size ebx, rowL, rowSt_len]
          refine wpX_execs_cons ?_
          refine wpX_Assign_Name ?_
          refine wpX_Call ?_
          k_steps
          refine callWithX_K (K := Mine.hd.heap_39 w.params) ?_ ?_
          · k_dflt k_is
          k_steps
          rename News _ _ _ _ => NQ5
          apply with_led NQ5
          intro W4 hW4 NW4
          k_dflt (refine' specX_use (bs_rev w _ _ mg mb W4 by' q.1 _ _ sby ⟨by omega, by omega⟩) ?k1 ?k2 ?k3 ?k4 ?k5 ?kK ?kd ?ku ?_; (case k1 => k_asm); (case k2 => k_asm); (case k3 => k_asm); (case k4 => k_asm); (case k5 => k_asm); (case kK => exact rfl))
          case kd => ktr_room
          case ku => ktr_units
          rintro rv17 n17 h17 tk17 F17 N17 l17 ⟨br, t17, rfl, hbr, rfl⟩
          clear l17
          subst hW4
          replace N17 : News _ _ _ (_ :: _) := N17
          -- CUT 1
          k_steps
          refine wpX_execs_cons ?_
          refine wpX_of_any ?_
          k_steps
          dsimp only
          have htg : ∀ j : Nat, j < 6 → trGood (3 * P0 + 2) (3 * P1) (3 * P2) (j : Int) = true := by rw [e0, e1, e2]; exact trGood_at hq hs15
          refine wpX_execs_cons ?_
          refine wpX_of_any ?_
          k_steps
          refine Stop.in ?_
          rename News _ _ _ _ => NQ6
          apply with_led NQ6
          intro W5 hW5 NW5
          k_dflt (refine' specT_use (traces_spec w _ _ mg mb W5 Dl 0 _ (3 * P0 + 2) (3 * P1) (3 * P2) (by rw [hW5]; exact .tail _ (.head _)) ints3 hlr hlg hlb htg) ?k1 ?k2 ?k3 ?k4 ?k5 ?kK ?ks ?kd ?ku ?_; (case k1 => k_asm); (case k2 => k_asm); (case k3 => k_asm); (case k4 => k_asm); (case k5 => k_asm); (case kK => exact rfl); (case ks => exact fun _ h => h))
          case kd => ktr_room
          case ku => ktr_units
          rintro rv18 T18 h18 tk18 F18 N18 ⟨Dt, tv, kt, rfl, rfl, net, hit⟩
          subst hW5
          rw [e0, e1, e2, traces_at hq hs15] at hit
          k_steps
          rename Fr _ _ _ _ => F19
          rename News _ _ _ _ => N19
          refine stCNk (own := [_, _, _, _, _, _, _, _]) (rest := _ :: _ :: _ :: Tb) F19 N19 rfl (by assumption) ⟨.inr listNC, .inr tupNC, .inr listNC, .inr listNC, .inr listNC, .inr listNC, .inr listNC, .inl (by show @Ne Nat _ _; omega), trivial⟩ ⟨.inl (by show @Ne Nat _ _; omega), .inl (by show @Ne Nat _ _; omega), .inl (by show @Ne Nat _ _; omega), tabs_apart hTb _⟩ ?_
          intro h20 o20 F20 N20 d20
          clear F19 N19
          dsimp only [List.cons_append, List.nil_append] at N20
          -- CUT 2
          k_steps
          refine wpX_execs_cons ?_
          refine wpX_of_any ?_
          k_steps
          refine Stop.in ?_
          have hg6 : ∀ i, 0 ≤ hs.getD i 0 ∧ hs.getD i 0 < 6 := fun i => getD_rng (by rw [hhs]; exact hst_six _) (by decide) i
          have hfa : 1 ≤ 1 + c1.fmod ((q.1 : Int) - 1) ∧ 1 + c1.fmod ((q.1 : Int) - 1) < q.1 := by
            rw [Int.fmod_eq_emod_of_nonneg _ (by omega)]
            have z1 := Int.emod_nonneg c1 (show (q.1 : Int) - 1 ≠ 0 by omega)
            have z2 := Int.emod_lt_of_pos c1 (show 0 < (q.1 : Int) - 1 by omega)
            omega
          have hfb : 1 ≤ 1 + c2.fmod ((q.1 : Int) - 1) ∧ 1 + c2.fmod ((q.1 : Int) - 1) < q.1 := by
            rw [Int.fmod_eq_emod_of_nonneg _ (by omega)]
            have z1 := Int.emod_nonneg c2 (show (q.1 : Int) - 1 ≠ 0 by omega)
            have z2 := Int.emod_lt_of_pos c2 (show 0 < (q.1 : Int) - 1 by omega)
            omega
          have hfc : 1 ≤ (q.1 : Int) - 1 ∧ (q.1 : Int) - 1 < q.1 := by clear hg6; omega
          have y1 := hg6 2
          have y2 := hg6 (1 + c1.fmod ((q.1 : Int) - 1)).toNat
          have y3 := hg6 (1 + c2.fmod ((q.1 : Int) - 1)).toNat
          have y4 := hg6 (q.1 - 1)
          obtain ⟨ts1, hz1⟩ := int_at hih (i := (2 : Int).toNat) (by rw [hsl]; show 2 < _; omega)
          obtain ⟨ts2, hz2⟩ := int_at hih (i := (1 + c1.fmod ((q.1 : Int) - 1)).toNat) (by rw [hsl]; exact idx_lt hfa)
          obtain ⟨ts3, hz3⟩ := int_at hih (i := (1 + c2.fmod ((q.1 : Int) - 1)).toNat) (by rw [hsl]; exact idx_lt hfb)
          obtain ⟨ts4, hz4⟩ := int_at hih (i := ((q.1 : Int) - 1).toNat) (by rw [hsl]; omega)
          have e1 : ((q.1 : Int) - 1).toNat = q.1 - 1 := by omega
          rw [show (2 : Int).toNat = 2 from rfl] at hz1
          rw [e1] at hz4
          refine item_lK N20 (k := kh) (vs := hv) (by k_mem) ⟨by decide, by decide⟩ hz1 ?_
          k_steps
          refine Stop.in ?_
          refine item_lK N20 (k := kh) (vs := hv) (by k_mem) (idx_rng hfa hp.2) hz2 ?_
          k_steps
          refine Stop.in ?_
          refine item_lK N20 (k := kh) (vs := hv) (by k_mem) (idx_rng hfb hp.2) hz3 ?_
          k_steps
          refine Stop.in ?_
          refine item_lK N20 (k := kh) (vs := hv) (by k_mem) (idx_rng hfc hp.2) (by rw [e1]; exact hz4) ?_
          k_steps
          rename Fr _ _ _ _ => F21
          rename News _ _ _ _ => N21
          refine stCNk (own := [_, _, _, _, _, _, _]) (rest := _ :: _ :: _ :: _ :: Tb) F21 N21 rfl (by assumption) ⟨.inr listNC, .inr tupNC, .inr listNC, .inr listNC, .inr listNC, .inr listNC, .inr listNC, trivial⟩ ⟨.inl (by show @Ne Nat _ _; omega), .inl (by show @Ne Nat _ _; omega), .inl (by show @Ne Nat _ _; omega), .inl (by show @Ne Nat _ _; omega), tabs_apart hTb _⟩ ?_
          intro h22 o22 F22 N22 d22
          clear F21 N21
          dsimp only [List.cons_append, List.nil_append] at N22
          -- CUT 3
          k_steps
          refine wpX_execs_cons ?_
          refine wpX_of_any ?_
          k_steps
          refine Stop.in ?_
          k_dflt (refine Assign_ListComp_W (by k_asm) (by rfl) (by rfl) (by rfl) (by decide) (by rfl) (by decide) (by rfl) (by rfl) (by rfl) ?_)
          k_steps
          refine Stop.in ?_
          rename Fr _ _ _ _ => F23
          rename News _ _ _ _ => N23
          rename IntsAre tv _ => hit
          obtain ⟨htl, htr⟩ := trT_six hq hs15
          have htv : tv.length = 6 := by rw [hit.length, htl]
          refine blk_range (n := q.1 - 1) rfl F23 N23 (by assumption) (rng_small hp) (rng_size hp) (by omega) fun gh => ?_
          refine comp_ints (fun j => (q.1 : Int) + (trT q.1 (1 + 4 * (c0.fdiv 5).fmod 2)).getD ((startL q.1 hs (1 + c1.fmod ((q.1 : Int) - 1)) (1 + c2.fmod ((q.1 : Int) - 1)) + 5 * hs.getD (j + 1) 0) % 6).toNat 0) ?_ ?_
          · intro j v ys I2 oI C oC D2 m₂ h2 tk2 E' hj hP hC hx2 F6 N6 off6 ne6
            obtain ⟨tj, rfl⟩ := hP
            have yj := hg6 (j + 1)
            obtain ⟨tsj, hzj⟩ := int_at hih (i := (1 + (j : Int)).toNat) (by rw [hsl]; exact turn_lt hj)
            rw [turn_eq] at hzj
            k_steps
            refine Stop.in ?_
            refine item_lK N6 (k := kh) (vs := hv) (by k_mem) (turn_rng hj hp) (by rw [turn_eq]; exact hzj) ?_
            k_steps
            refine Stop.in ?_
            obtain ⟨r1, r2, r3⟩ := mod6_rng (startL q.1 hs (1 + c1.fmod ((q.1 : Int) - 1)) (1 + c2.fmod ((q.1 : Int) - 1)) + 5 * hs.getD (j + 1) 0)
            obtain ⟨tt, hzt⟩ := int_at hit (i := ((startL q.1 hs (1 + c1.fmod ((q.1 : Int) - 1)) (1 + c2.fmod ((q.1 : Int) - 1)) + 5 * hs.getD (j + 1) 0).fmod 6).toNat) (by rw [htl]; exact r2)
            refine item_lK N6 (k := kt) (vs := tv) (by k_mem) r1 hzt ?_
            k_steps
            refine Stop.in ?_
            refine CompEnd.fin0 F6 N6 off6 trivial ?_
            rw [r3]
          · intro ys3 hys3
            unfold FinA
            intro D24 h24 tk24 F24 N24 o24
            replace o24 := off1_of o24
            have n1 : @Ne Nat D24 Dt := Ne.symm (o24 _ (.head _))
            have n2 : @Ne Nat D24 _ := Ne.symm (o24 _ (.tail _ (.tail _ (.tail _ (.tail _ (.tail _ (.tail _ (.tail _ (.head _)))))))))
            dsimp only
            obtain ⟨wl, hwl⟩ : ∃ wl, wl = (List.range (q.1 - 1)).map fun j => (q.1 : Int) + (trT q.1 (1 + 4 * (c0.fdiv 5).fmod 2)).getD ((startL q.1 hs (1 + c1.fmod ((q.1 : Int) - 1)) (1 + c2.fmod ((q.1 : Int) - 1)) + 5 * hs.getD (j + 1) 0) % 6).toNat 0 := ⟨_, rfl⟩
            rw [← hwl] at hys3
            dsimp only at F24 N24
            refine wpX_execs_cons (wpX_of_any ?_)
            k_steps
            refine Stop.in ?_
            have NR := news_two (b := (s₁.heap.objs.size + 1, _)) N24 (.tail _ (.tail _ (.tail _ (.tail _ (.tail _ (.tail _ (.tail _ (.tail _ (.tail _ (.tail _ (.tail _ (.head _)))))))))))) (T := Tb) (fun p hp => .tail _ (.tail _ (.tail _ (.tail _ (.tail _ (.tail _ (.tail _ (.tail _ (.tail _ (.tail _ (.tail _ (.tail _ hp))))))))))))
            clear N24
            have cR2 : Cl [(D24, lst ys3), (s₁.heap.objs.size + 1, _)] := Cl.cons (by simp) (Cl.cell (v := some (Value.int (q.1 : Int) tq)) (by with_reducible assumption) Cl.nil)
            obtain ⟨rA1, rA2⟩ := rest_at hq hs15 ⟨hfa.1, hfa.2⟩ ⟨hfb.1, hfb.2⟩ hwt
            have ebr : PySem.W.KBw.bInts br = (rowL q.1 (1 + c2.fmod ((q.1 : Int) - 1)) 2).reverse := by rw [hbr, bInts_reverse, eby]
            have sbr : br.size = q.1 := by rw [hbr, Array.size_reverse, sby]
            have hB64 : ∀ x ∈ (rowL q.1 (1 + c2.fmod ((q.1 : Int) - 1)) 2).reverse, 0 ≤ x ∧ x < 64 := fun x hx => rowL_rng hp x (List.mem_reverse.mp hx)
            k_dflt (refine' specT_use (rest_spec w _ _ mg mb _ _ hTb cR2 bx br _ _ _ q.1 _ _ _ ebx ebr sbx sbr (rowL_rng hp) hB64 hp hwn rA1) ?k1 ?k2 ?k3 ?k4 ?k5 ?kK ?ks ?kd ?ku ?_; (case k1 => k_asm); (case k2 => k_asm); (case k3 => k_asm); (case k4 => k_asm); (case k5 => k_asm); (case kK => exact rfl); (case ks => exact fun _ h => h))
            case kd => ktr_room
            case ku => ktr_units
            rintro rv25 T25 h25 tk25 F25 N25 ⟨Dz, zv, kz, Tb2, rfl, hiz, nez, rfl, hTb2⟩
            rw [rA2] at hiz
            clear NR rA1 rA2
            replace N25 : News _ _ _ (_ :: _ :: _ :: Tb2) := N25
            have hwn2 : wantL q.1 (huesL q.1 q.2 (1 + 4 * (c0.fdiv 5).fmod 2)) (trT q.1 (1 + 4 * (c0.fdiv 5).fmod 2)) (1 + c1.fmod ((q.1 : Int) - 1)) (1 + c2.fmod ((q.1 : Int) - 1)) = wl ++ [(q.1 : Int)] := by rw [hwl, ← hhs]; rfl
            rw [hwn2] at hiz
            have hcat : ys3.length + (0 + 1) < 1000000 := by
              have z1 := hys3.length
              have z2 : wl.length = q.1 - 1 := by rw [hwl, List.length_map, List.length_range]
              exact cat_room z1 z2 hp
            clear hwn2 hwl
            k_steps
            refine Stop.in ?_
            rename News _ _ _ _ => N26
            have hgr : GrownAll [(41, 37), (34, 30)] _ := grown_tabs hTb2 N26 fun p hp => .tail _ (.tail _ (.tail _ (.tail _ (.tail _ hp))))
            have hiw : ∀ t, IntsAre (ys3 ++ [Value.int (q.1 : Int) t]) (wl ++ [(q.1 : Int)]) := fun t => hys3.append (.cons _ _ .nil)
            refine eqints_T N26 (ns := wl ++ [(q.1 : Int)]) (k := kz) (k' := 0) (vs := zv) (vs' := ys3 ++ [_]) (.tail _ (.tail _ (.head _))) (.head _) hiz (hiw _) (by ke_room) ?_
            refine And.intro ?_ hgr
            rename Fr _ _ _ _ => FZ
            refine goodW_bool FZ hg (raisesW_false ?_) (post01 _)
            wrow_none_raised
end Mine
end
open PySem PySem.W PyProof.Rows
theorem PySem.Challenge.cw_wf0044_01_holds : PySem.Challenge.rw_wf0044_01.Holds := by
  exact Mine.law01
