import PyProof.Rows.All
import Wide.All
import OpenK.AllK
import Wide.FinOn
import PySem.Challenge.RW_wf0044_03
set_option Elab.async false
local macro_rules | `(tactic| omega) => `(tactic| first | decide | lia | omega +splitNatSub)
section
open PySem PySem.W PyProof.Rows PySem.Calls
set_option maxRecDepth 100000
namespace Mine
abbrev Led := List (Addr × Obj)
noncomputable def fdv (a b : Int) : UInt64 := Float64.ofFrac (decide (a < 0) != decide (b < 0)) a.natAbs b.natAbs
section
variable {prog : Program} {w : World} {A : Around} {E : Value → Shared → Prop} {s : Shared} {h₀ : Heap} {L : Addr} {m : Str → Option Value} {news : Led}
theorem max3_K {a b c : Int} {t u x : Tok} {Q : Value → Shared → Prop} (hh : A.handled = none) (F : Fr h₀ L s.heap m) (N : News h₀ L s.heap news)
    (h : ∀ t' h' tk, Fr h₀ L h' m → News h₀ L h' news → Q (.int ((max a (max b c))) t') { s with heap := h', toks := tk }) :
    wpAny (model prog w) A (call (.builtin "max") [.int a t, .int b u, .int c x]) Q E s := by
  refine max_three_ints hh fun h' tk hk => ?_
  have key : ∃ t', (if b > a then (if c > b then Value.int c x else .int b u) else (if c > a then .int c x else .int a t)) = Value.int ((max a (max b c))) t' := by
    by_cases h1 : b > a
    · by_cases h2 : c > b
      · exact ⟨x, by rw [if_pos h1, if_pos h2, Int.max_eq_right (Int.le_of_lt h2), Int.max_eq_right (Int.le_of_lt (Int.lt_trans h1 h2))]⟩
      · exact ⟨u, by rw [if_pos h1, if_neg h2, Int.max_eq_left (Int.not_lt.mp h2), Int.max_eq_right (Int.le_of_lt h1)]⟩
    · by_cases h2 : c > a
      · exact ⟨x, by rw [if_neg h1, if_pos h2, Int.max_eq_right (Int.le_of_lt (Int.lt_of_le_of_lt (Int.not_lt.mp h1) h2)), Int.max_eq_right (Int.le_of_lt h2)]⟩
      · exact ⟨t, by rw [if_neg h1, if_neg h2, Int.max_eq_left (Int.max_le.mpr ⟨Int.not_lt.mp h1, Int.not_lt.mp h2⟩)]⟩
  obtain ⟨t', e⟩ := key
  rw [e]
  exact h t' h' tk (F.grownK hk) (N.grown hk)
theorem min3_K {a b c : Int} {t u x : Tok} {Q : Value → Shared → Prop} (hh : A.handled = none) (F : Fr h₀ L s.heap m) (N : News h₀ L s.heap news)
    (h : ∀ t' h' tk, Fr h₀ L h' m → News h₀ L h' news → Q (.int ((min a (min b c))) t') { s with heap := h', toks := tk }) :
    wpAny (model prog w) A (call (.builtin "min") [.int a t, .int b u, .int c x]) Q E s := by
  refine min_three_ints hh fun h' tk hk => ?_
  have key : ∃ t', (if b < a then (if c < b then Value.int c x else .int b u) else (if c < a then .int c x else .int a t)) = Value.int ((min a (min b c))) t' := by
    by_cases h1 : b < a
    · by_cases h2 : c < b
      · exact ⟨x, by rw [if_pos h1, if_pos h2, Int.min_eq_right (Int.le_of_lt h2), Int.min_eq_right (Int.le_of_lt (Int.lt_trans h2 h1))]⟩
      · exact ⟨u, by rw [if_pos h1, if_neg h2, Int.min_eq_left (Int.not_lt.mp h2), Int.min_eq_right (Int.le_of_lt h1)]⟩
    · by_cases h2 : c < a
      · exact ⟨x, by rw [if_neg h1, if_pos h2, Int.min_eq_right (Int.le_of_lt (Int.lt_of_lt_of_le h2 (Int.not_lt.mp h1))), Int.min_eq_right (Int.le_of_lt h2)]⟩
      · exact ⟨t, by rw [if_neg h1, if_neg h2, Int.min_eq_left (Int.le_min.mpr ⟨Int.not_lt.mp h1, Int.not_lt.mp h2⟩)]⟩
  obtain ⟨t', e⟩ := key
  rw [e]
  exact h t' h' tk (F.grownK hk) (N.grown hk)
theorem divii_K {a b : Int} {t u : Tok} {Q : Value → Shared → Prop} (hA : A.handled = none) (hfit : -1000000000 < a ∧ a < 1000000000) (hb : b ≠ 0)
    (h : Q (.float (fdv a b) s.toks) { s with toks := s.toks + 1 }) : wpAny (model prog w) A (binaryOp .Div (.int a t) (.int b u)) Q E s :=
  PySem.Flt.div_ii_fits hA (Nat.lt_of_lt_of_le (m := 2 ^ 30) (by omega) (Nat.pow_le_pow_right (by decide) (by decide))) (fun e => absurd e hb) (fun _ _ => h)
end
noncomputable def Spec (prog : Program) (w : World) (K : Frag) (p : Program) (loose : List Str) (mean : ExcName → Option Value) (mg mb : Str → Option Value) (dd uu : Nat) (f : Addr) (vs : List Value) (T : Led) (Post : Value → Led → Prop) : Prop :=
  ∀ (dp un : Nat) (gd : Option (List Code)) (cn : Str) (cs : Scope) (a : Addr) (ccd : Value) (cl : List (Str × Addr)) (outer : List Env) (A₀ : Around) (base h₀ : Heap) (L : Addr) (m : Str → Option Value) (s : Shared) (Q E : Value → Shared → Prop),
    Below A₀ base outer h₀ → Fr h₀ L s.heap m → K.In h₀ → News h₀ L s.heap T → Top p loose mean mg mb h₀ → cs.kind = .function → dp + dd < recursionLimit → un + uu < cLine →
    (∀ (r : Value) (new : Led) (h' : Heap) (tk' : Nat), Fr h₀ L h' m → News h₀ L h' (new ++ T) → (∀ q ∈ T, ∀ p ∈ new, q.1 < p.1) → Post r new → Q r { s with heap := h', toks := tk' }) →
    wpAny (model prog w) (ktrTop dp un gd cn cs L a ccd cl outer) (call (.ref f) vs) Q E s

abbrev tupObj (vs : List Value) : Obj := { cls := .type "tuple", data := .seq vs.toArray }
theorem hret1 {h₀ : Heap} {L D : Addr} {m : Str → Option Value} {T : Led} {s : Shared} {Q : Value → Shared → Prop} {Post : Value → Led → Prop} {h' : Heap} {tk' : Nat} {o : Obj}
    (hret : ∀ (r : Value) (new : Led) (h' : Heap) (tk' : Nat), Fr h₀ L h' m → News h₀ L h' (new ++ T) → (∀ q ∈ T, ∀ p ∈ new, q.1 < p.1) → Post r new → Q r { s with heap := h', toks := tk' })
    (F : Fr h₀ L h' m) (N : News h₀ L h' ((D, o) :: T)) (l : ∀ p ∈ T, p.1 < D) (hp : Post (.ref D) [(D, o)]) : Q (.ref D) { s with heap := h', toks := tk' } :=
  hret _ [(D, o)] _ _ F N (fun q hq p hp => by rw [List.mem_singleton.mp hp]; exact l q hq) hp
theorem hret0 {h₀ : Heap} {L : Addr} {m : Str → Option Value} {T : Led} {s : Shared} {Q : Value → Shared → Prop} {Post : Value → Led → Prop} {h' : Heap} {tk' : Nat} {v : Value}
    (hret : ∀ (r : Value) (new : Led) (h' : Heap) (tk' : Nat), Fr h₀ L h' m → News h₀ L h' (new ++ T) → (∀ q ∈ T, ∀ p ∈ new, q.1 < p.1) → Post r new → Q r { s with heap := h', toks := tk' })
    (F : Fr h₀ L h' m) (N : News h₀ L h' T) (hp : Post v []) : Q v { s with heap := h', toks := tk' } :=
  hret _ [] _ _ F N (fun _ _ _ hp => nomatch hp) hp

noncomputable def rgbH (r g b : Int) : UInt64 :=
  if (min r (min g b)) = (max r (max g b)) then 0 else
  let rg := (max r (max g b)) - (min r (min g b))
  let rc := fdv ((max r (max g b)) - r) rg
  let gc := fdv ((max r (max g b)) - g) rg
  let bc := fdv ((max r (max g b)) - b) rg
  let h := if r = (max r (max g b)) then Float64.sub bc gc else if g = (max r (max g b)) then Float64.sub (Float64.add 4611686018427387904 rc) bc else Float64.sub (Float64.add 4616189618054758400 gc) rc
  (Float64.divmod (Float64.div h 4618441417868443648) 4607182418800017408).2
noncomputable def rgbS (r g b : Int) : UInt64 := if (min r (min g b)) = (max r (max g b)) then 0 else fdv ((max r (max g b)) - (min r (min g b))) ((max r (max g b)))
noncomputable def rgbPost (r g b : Int) (v : Value) (new : Led) : Prop :=
  ∃ D u1 u2 u3, v = .ref D ∧ new = [(D, tupObj [.float (rgbH r g b) u1, .float (rgbS r g b) u2, .int ((max r (max g b))) u3])]
theorem rgbPost0 {r g b : Int} {D : Addr} {u1 u2 u3 : Tok} (h : (min r (min g b)) = (max r (max g b))) : rgbPost r g b (.ref D) [(D, tupObj [.float 0 u1, .float 0 u2, .int ((max r (max g b))) u3])] := by
  refine ⟨D, u1, u2, u3, rfl, ?_⟩
  unfold rgbH rgbS
  rw [if_pos h, if_pos h]
theorem rgbPostN {r g b : Int} {D : Addr} {u1 u2 u3 : Tok} {H S : UInt64} (h : (min r (min g b)) ≠ (max r (max g b)))
   (hs : S = fdv ((max r (max g b)) - (min r (min g b))) ((max r (max g b))))
   (hh : H = (Float64.divmod (Float64.div (if r = (max r (max g b)) then Float64.sub (fdv ((max r (max g b)) - b) ((max r (max g b)) - (min r (min g b)))) (fdv ((max r (max g b)) - g) ((max r (max g b)) - (min r (min g b)))) else if g = (max r (max g b)) then Float64.sub (Float64.add 4611686018427387904 (fdv ((max r (max g b)) - r) ((max r (max g b)) - (min r (min g b))))) (fdv ((max r (max g b)) - b) ((max r (max g b)) - (min r (min g b)))) else Float64.sub (Float64.add 4616189618054758400 (fdv ((max r (max g b)) - g) ((max r (max g b)) - (min r (min g b))))) (fdv ((max r (max g b)) - r) ((max r (max g b)) - (min r (min g b))))) 4618441417868443648) 4607182418800017408).2) : rgbPost r g b (.ref D) [(D, tupObj [.float H u1, .float S u2, .int ((max r (max g b))) u3])] := by
  refine ⟨D, u1, u2, u3, rfl, ?_⟩
  unfold rgbH rgbS
  rw [if_neg h, if_neg h, hs, hh]
end Mine
end
section
open PySem PySem.W PyProof.Rows PySem.Calls
open PySem.Sem (wp)
set_option maxRecDepth 100000
namespace Mine
noncomputable def badIds : List String := Builtin.Bytes.decodersThatHold ++ ["bytearray.__contains__", "bytearray.__mod__", "bytearray.__rmod__", "_struct.pack_into.held", "bytearray.find.held"]
noncomputable def holds (c : Code) : Bool := match c with | .builtin id _ => badIds.contains id | _ => false
noncomputable def CleanL (l : List (Code × Pos)) : Prop := ∀ x ∈ l, holds x.1 = false
theorem CleanL.cons {c : Code} {p : Pos} {l : List (Code × Pos)} (h : holds c = false) (k : CleanL l) : CleanL ((c, p) :: l) := fun x hx => by
  rcases List.mem_cons.mp hx with rfl | hx
  · exact h
  · exact k x hx
noncomputable def wpX {α : Type} (M : Model) (A : Around) (t : Sem α) (Q : α → Shared → Prop) (E : Value → Shared → Prop) (s : Shared) : Prop :=
  ∀ Γ p, CleanL Γ.below → holds Γ.code = false → Γ.In A → wp M Γ t (fun a _ s' => Q a s') (fun e _ s' => E e s') p s
noncomputable def codeX (M : Model) (A : Around) (c : Code) (R : Result → Shared → Prop) (s : Shared) : Prop :=
  ∀ Γ p, Γ.code = c → CleanL Γ.below → Γ.Below A → wpCode M Γ R p s
section
variable {α β : Type} {M : Model} {A : Around} {E : Value → Shared → Prop} {s : Shared}
theorem wpX_of_any {t : Sem α} {Q : α → Shared → Prop} (h : wpAny M A t Q E s) : wpX M A t Q E s := fun Γ p _ _ hΓ => h Γ p hΓ
theorem codeX_of_any {c : Code} {R : Result → Shared → Prop} (h : codeAny M A c R s) : codeX M A c R s := fun Γ p hc _ hΓ => h Γ p hc hΓ
theorem wpX_mono {t : Sem α} {Q Q' : α → Shared → Prop} {E' : Value → Shared → Prop} (h : wpX M A t Q E s) (hQ : ∀ a s, Q a s → Q' a s) (hE : ∀ e s, E e s → E' e s) : wpX M A t Q' E' s :=
  fun Γ p h1 h2 hΓ => Sem.wp_mono M Γ t (fun a _ s => hQ a s) (fun e _ s => hE e s) p s (h Γ p h1 h2 hΓ)
theorem codeX_mono {c : Code} {R R' : Result → Shared → Prop} (h : codeX M A c R s) (hR : ∀ r s, R r s → R' r s) : codeX M A c R' s :=
  fun Γ p hc h1 hΓ => wpCode_mono hR (h Γ p hc h1 hΓ)
theorem wpX_bind {m : Sem α} {f : α → Sem β} {Q : β → Shared → Prop} (h : wpX M A m (fun a s' => wpX M A (f a) Q E s') E s) : wpX M A (m >>= f) Q E s := fun Γ p h1 h2 hΓ => by
  rw [Sem.wp_bind']
  exact Sem.wp_mono M Γ m (fun a p' s' h' => h' Γ p' h1 h2 hΓ) (fun _ _ _ h' => h') p s (h Γ p h1 h2 hΓ)
theorem wpX_bindA {m : Sem α} {f : α → Sem β} {Q : β → Shared → Prop} (h : wpAny M A m (fun a s' => wpX M A (f a) Q E s') E s) : wpX M A (m >>= f) Q E s := wpX_bind (wpX_of_any h)
theorem wpX_pure {a : α} {Q : α → Shared → Prop} (h : Q a s) : wpX M A (pure a) Q E s := wpX_of_any (wpAny_pure h)
theorem wpX_holding {vs : List Value} {m : Sem α} {Q : α → Shared → Prop} (h : wpX M A m Q E s) : wpX M A (holding vs m) Q E s :=
  fun Γ p h1 h2 hΓ => by rw [Sem.wp_holding]; exact h Γ p h1 h2 hΓ
theorem wpX_onRaise {m : Sem α} {k : Value → Sem Unit} {Q : α → Shared → Prop}
    (h : wpX M A m Q (fun e s' => wpAny M A (k e) (fun _ s'' => E e s'') E s') s) : wpX M A (m.onRaise k) Q E s := fun Γ p h1 h2 hΓ => by
  rw [Sem.wp_onRaise]
  exact Sem.wp_mono M Γ m (fun _ _ _ h' => h') (fun e p' s' h' => h' Γ p' hΓ) p s (h Γ p h1 h2 hΓ)
theorem wpX_call {f : Value} {pos : List Value} {kw : List (Str × Value)} {Q : Value → Shared → Prop}
    (hc : codeX M A (.call f ⟨pos, kw⟩) (fun r s' => match r with | .ok (.ret v) => Q v s' | .ok _ => False | .error e => E e s') s) : wpX M A (call f pos kw) Q E s := fun Γ p h1 h2 hΓ => by
  show wp M Γ (runValue (.call f ⟨pos, kw⟩)) _ _ p s
  rw [Sem.wp_runValue]
  exact hc _ p rfl (CleanL.cons h2 h1) (hΓ.enter _ none p (by intro x; cases x))
theorem wpX_run {c : Code} {h : Option Value} {Q : Flow → Shared → Prop}
    (hc : codeX M (A.mark h) c (fun r s' => match r with | .ok f => Q f s' | .error e => E e s') s) (hnb : h ≠ some byPass := by intro x; cases x) : wpX M A (run c h) Q E s :=
  fun Γ p h1 h2 hΓ => by rw [Sem.wp_run]; exact hc _ p rfl (CleanL.cons h2 h1) (hΓ.enter c h p hnb)
theorem codeX_of_tree {c : Code} {R : Result → Shared → Prop} (hc : holds c = false)
    (h : wpX M (A.under c) (M.den c) (fun fin s' => match fin with | .done f => R (.ok f) s' | .again c' => c'.quiet = true ∧ codeX M A c' R s')
      (fun e s' => R (.error e) s') s) : codeX M A c R s := fun Γ p e h1 hΓ => by
  rw [wpCode_iff_wp, e]
  refine Sem.wp_mono M Γ _ (fun fin p' s' h' => ?_) (fun _ _ _ h' => h') p s (h Γ p h1 (e ▸ hc) (e ▸ hΓ.in))
  cases fin with
  | done f => exact h'
  | again c' => exact ⟨h'.1, h'.2 (Γ.goto c') p' rfl h1 (hΓ.goto c')⟩
theorem exported_X {a : Addr} {Q : Bool → Shared → Prop} (h : Q false s) : wpX M A (Builtin.Bytes.exported (.ref a)) Q E s := by
  intro Γ p h1 h2 _
  unfold Builtin.Bytes.exported
  show Q (((Γ.code, p) :: Γ.below).any _) s
  rw [show (((Γ.code, p) :: Γ.below).any _) = false from ?_]
  · exact h
  · rw [List.any_eq_false]
    intro x hx
    have hh : holds x.1 = false := CleanL.cons h2 h1 x hx
    obtain ⟨c, q⟩ := x
    rw [Bool.not_eq_true]
    cases c with
    | builtin id args =>
      have hb : badIds.contains id = false := hh
      have hb2 : Builtin.Bytes.decodersThatHold.contains id = false := by
        cases e : Builtin.Bytes.decodersThatHold.contains id with
        | false => rfl
        | true =>
          exfalso
          have h3 : id ∈ badIds := List.mem_append_left _ (List.contains_iff_mem.mp e)
          rw [List.contains_iff_mem.mpr h3] at hb
          cases hb
      have hne : ∀ x ∈ (["bytearray.__contains__", "bytearray.__mod__", "bytearray.__rmod__", "_struct.pack_into.held", "bytearray.find.held"] : List String), id ≠ x := by
        intro x hx e
        subst e
        have h3 : id ∈ badIds := List.mem_append_right _ hx
        rw [List.contains_iff_mem.mpr h3] at hb
        cases hb
      have h1 := hne "bytearray.__contains__" (by decide)
      have h2 := hne "bytearray.__mod__" (by decide)
      have h3 := hne "bytearray.__rmod__" (by decide)
      have h4 := hne "_struct.pack_into.held" (by decide)
      have h5 := hne "bytearray.find.held" (by decide)
      clear hne hb hh hx
      obtain ⟨l, kw⟩ := args
      show Builtin.Bytes.exported.match_1 (fun _ => Bool) _ _ _ _ _ _ _ _ = false
      unfold Builtin.Bytes.exported.match_1
      dsimp only
      unfold Builtin.Bytes.exported._sparseCasesOn_1
      dsimp only
      rw [dif_neg h1, dif_neg h2, dif_neg h3, dif_neg h4, dif_neg h5]
      cases l with
      | nil => rfl
      | cons v l => exact (congrArg (fun z => Builtin.Bytes.sameRef v (.ref a) && z) hb2).trans (Bool.and_false _)
    | _ => rfl
end
end Mine
end
section
open PySem PySem.W PyProof.Rows PySem.Calls
open PySem.Sem (wp)
set_option maxRecDepth 100000
namespace Mine
namespace FB
theorem mro : mroOf (.type "bytearray") = pure [.type "bytearray", .type "object"] := by rw [mroOf_type]; kernel_rfl
theorem lk_new : typeLookup (.type "bytearray") "__new__" = pure (some (.builtin "bytearray.__new__")) := by rw [typeLookup_type, builtinLookup_eq_fast]; kernel_rfl
theorem lk_init : Slot "bytearray" "__init__" "bytearray.__init__" :=
  .of (owner := "bytearray") (n := "__init__") (by rw [typeLookup_type, builtinLookup_eq_fast]; kernel_rfl) (by decide +kernel) (by decide +kernel) (by decide +kernel)
    (by first | exact .inl (by decide +kernel) | exact .inr (by decide +kernel)) (by rw [isSubtype_type]; kernel_rfl)
theorem called : TypeCalled "bytearray" "bytearray.__new__" "bytearray.__init__" :=
  ⟨by decide +kernel, by decide +kernel, ⟨_, _, mro⟩, madeBy_type mro lk_new (by decide +kernel), by decide +kernel, by rw [isSubtype_type]; kernel_rfl, lk_init⟩
theorem typeCall (a : Value) : checkTypeCall "bytearray" ⟨[a], []⟩ = pure () := by kernel_rfl
theorem newCall (a : Value) : checkBuiltinCall "bytearray.__new__" ⟨[.type "bytearray", a], []⟩ = pure () := by kernel_rfl
theorem entry_new : entryFor table "bytearray.__new__" = some Builtin.«list.__new__» :=
  entryFor_alias (id' := "list.__new__") (by kernel_rfl) (by first | rfl | decide +kernel) (by decide +kernel) (by kernel_rfl)
theorem plain_new : plainId "bytearray.__new__" = true := by decide +kernel
theorem entry_init : entryFor table "bytearray.__init__" = some Builtin.«bytearray.__init__» := entryFor_of_tree (by kernel_rfl)
theorem sub_self : isSubtype (.type "bytearray") (.type "bytearray") = pure true := by rw [isSubtype_type]; kernel_rfl
theorem args_init (a b : Value) : argsOk "bytearray.__init__" ⟨[a, b], []⟩ := by unfold argsOk; kernel_rfl
theorem bind_init (v : Value) : Builtin.Bytes.bindOptional "bytearray.__init__" "bytearray" ["source", "encoding", "errors"] [v] [] = pure [some v, none, none] := by kernel_rfl
theorem lk_release : typeLookup (.type "bytearray") "__release_buffer__" = pure (some (.builtin "bytearray.__release_buffer__")) := by rw [typeLookup_type, builtinLookup_eq_fast]; kernel_rfl
theorem lk_index : typeLookup (.type "int") "__index__" = pure (some (.builtin "int.__index__")) := by rw [typeLookup_type, builtinLookup_eq_fast]; kernel_rfl
end FB
set_option maxRecDepth 1000000 in
set_option maxHeartbeats 4000000 in
theorem owner_ba_new : ("bytearray.__new__".splitOn ".__new__").headD "" = "bytearray" := by simp +decide [String.splitOn, String.splitOnAux]
abbrev baObj (b : Array UInt8) : Obj := { cls := .type "bytearray", data := .bytearray b }
section
variable {prog : Program} {w : World} {A : Around} {E : Value → Shared → Prop} {s : Shared}
theorem codeX_builtin {id : String} {args : Args} {b : Builtin} {R : Result → Shared → Prop} (hb : entryFor table id = some b) (hf : holds (.builtin id args) = false)
    (h : wpX (model prog w) (A.under (.builtin id args)) (b args) (fun fin s' => match fin with | .done f => R (.ok f) s' | .again c' => c'.quiet = true ∧ codeX (model prog w) A c' R s') (fun e s' => R (.error e) s') s) :
    codeX (model prog w) A (.builtin id args) R s := by
  refine codeX_of_tree hf ?_
  have hden : (model prog w).den (.builtin id args) = b args := by
    show (match entryFor table id with | some b => b args | none => unsupported ((withoutEnding? id "#data").getD id)) = _
    rw [hb]
  rw [hden]
  exact h
theorem ba_new (a : Value) {Q₁ : Value → Shared → Prop}
    (h : Q₁ (.ref s.heap.objs.size) { s with heap := s.heap.push (baObj #[]) }) :
    codeAny (model prog w) A (.call (.builtin "bytearray.__new__") ⟨[.type "bytearray", a], []⟩) (wants Q₁ E) s := by
  refine codeAny_of_tree ?_
  show wpAny _ A.in1 (do checkBuiltinCall "bytearray.__new__" ⟨[.type "bytearray", a], []⟩; again (.builtin "bytearray.__new__" ⟨[.type "bytearray", a], []⟩)) _ _ s
  refine wpAny_bind (wpAny_of_eq (FB.newCall a) (wpAny_pure ⟨plainId_quiet FB.plain_new _, codeAny_builtin_stack FB.entry_new rfl fun p st => ?_⟩))
  rw [Around.under_plainId FB.plain_new _]
  have hsub := FB.sub_self
  have hown := owner_ba_new
  obtain ⟨hp, g, d, tk, os⟩ := s
  simp only [hown]
  wp_walk
  exact h
end
end Mine
end
section
open PySem PySem.W PyProof.Rows PySem.Calls
open PySem.Sem (wp)
set_option maxRecDepth 100000
namespace Mine
section
variable {prog : Program} {w : World} {A : Around} {E : Value → Shared → Prop} {s : Shared}
theorem write_ba {a : Addr} {b : Array UInt8} {f : Array UInt8 → Array UInt8} {Q : Unit → Shared → Prop} {M : Model} (h0 : s.heap.get? a = some (baObj b)) (hz : (f b).size ≤ sizeLine)
    (h : Q () { s with heap := s.heap.update a (Obj.mapBytearray f) }) : wpAny M A (Builtin.Bytes.write (.ref a) f) Q E s := by
  show wpAny _ _ (updateBytearray a f) _ _ _
  unfold updateBytearray
  refine wpAny_bind (wpAny_load h0 ?_)
  show wpAny _ _ (update a (Obj.mapBytearray f) >>= fun _ => lookBehind a) _ _ _
  refine wpAny_bind (wpAny_update h0 ?_)
  refine wpAny_lookBehind (o := baObj (f b)) (Heap.get?_update_self (Obj.mapBytearray f) h0 rfl) ?_ h
  show (if (f b).size > sizeLine then some "bytearray:memory" else none) = none
  rw [if_neg (Nat.not_lt.mpr hz)]
theorem wpX_if_false {α : Type} {M : Model} {c : Bool} {a b : Sem α} {Q : α → Shared → Prop} (hc : c = false) (h : wpX M A b Q E s) : wpX M A (if c = true then a else b) Q E s := by
  subst hc
  exact h
theorem ba_init {a : Addr} {n : Int} {t : Tok} (hh : A.handled = none) (h0 : 0 < n) (h1 : n < 1000000) (ho : s.heap.get? a = some (baObj #[])) {Q : PySem.Fin → Shared → Prop}
    (h : ∀ h' tk, Heap.SameBut a s.heap h' → h'.get? a = some (baObj (Array.replicate n.toNat 0)) → Q (.done (.ret .none)) { s with heap := h', toks := tk }) :
    wpX (model prog w) A (Builtin.«bytearray.__init__» ⟨[.ref a, .int n t], []⟩) Q E s := by
  have hT : s.TypeIs (.ref a) "bytearray" := ⟨_, ho, rfl⟩
  have rel : ∀ {Q : Bool → Shared → Prop} {E' : Value → Shared → Prop} {A' : Around}, Q false s → wpAny (model prog w) A' (Builtin.Bytes.ownRelease (.ref a)) Q E' s := by
    intro Q E' A' hq
    unfold Builtin.Bytes.ownRelease Builtin.Bytes.slotIsOwn
    refine wpAny_bind (wpAny_bind (wpAny_specialOf hT FB.lk_release ?_))
    dsimp only
    rw [show ("bytearray.__release_buffer__".endsWith ("." ++ "__release_buffer__")) = true from by decide +kernel]
    refine wpAny_isInstance hT (b := true) (by rw [show ("bytearray.__release_buffer__".dropRight ("__release_buffer__".length + 1)) = "bytearray" from by decide +kernel]; exact FB.sub_self) ?_
    exact wpAny_pure hq
  unfold Builtin.«bytearray.__init__»
  refine wpX_bindA (m := Builtin.Bytes.ownRelease (.ref a)) (rel ?_)
  refine wpX_if_false rfl ?_
  refine wpX_bindA (wpAny_of_eq (FB.bind_init _) ?_)
  refine wpX_bindA (wpAny_of_eq (a := ()) rfl ?_)
  refine wpX_bindA (wpAny_of_eq (a := ()) rfl ?_)
  refine wpX_bind (wpX_bind (exported_X ?_))
  dsimp only
  refine wpX_of_any ?_
  unfold Builtin.Bytes.exportsOf
  refine wpAny_bind (wpAny_bind (wpAny_load ho (wpAny_pure (wpAny_pure ?_))))
  refine wpX_if_false (by decide) ?_
  refine wpX_of_any ?_
  refine wpAny_bind (write_ba (b := #[]) (f := fun _ => #[]) ho (Nat.zero_le _) ?_)
  have ho2 : (s.heap.update a (Obj.mapBytearray fun _ => #[])).get? a = some (baObj #[]) := Heap.get?_update_self (Obj.mapBytearray fun _ => #[]) ho rfl
  refine wpAny_bind (wpAny_of_eq (a := none) rfl ?_)
  refine bm_if_false rfl ?_
  refine wpAny_bind (wpAny_of_eq (a := ()) rfl ?_)
  refine wpAny_bind (wpAny_specialOf (T := "int") rfl FB.lk_index ?_)
  refine bm_if_true rfl ?_
  refine wpAny_bind (wpAny_attempt (wpAny_of_eq (a := n) rfl ?_))
  dsimp only
  refine bm_if_false (by unfold Builtin.Bytes.fitsIndex; simp only [Bool.not_eq_false', decide_eq_true_eq, Bool.and_eq_true]; omega) ?_
  rw [if_neg (by omega)]
  refine bm_if_false (by simp only [beq_eq_false_iff_ne, ne_eq]; omega) ?_
  refine bm_if_false (by simp [Builtin.Bytes.tooLong, sizeLine]; omega) ?_
  refine wpAny_bind (wpAny_rule ?_)
  rw [if_pos (by omega)]
  refine wpAny_bind (write_ba (b := #[]) (f := fun _ => Array.replicate n.toNat 0) ho2 (by simp [sizeLine]; omega) ?_)
  refine wpAny_pure (h _ _ ((Heap.SameBut.update ..).trans (Heap.SameBut.update ..)) ?_)
  exact Heap.get?_update_self (Obj.mapBytearray fun _ => Array.replicate n.toNat 0) ho2 rfl
end
end Mine
namespace Mine
section
variable {prog : Program} {w : World} {A : Around} {E : Value → Shared → Prop} {s : Shared}
theorem ba_call {n : Int} {t : Tok} {Q : Value → Shared → Prop} (hh : A.handled = none) (h0 : 0 < n) (h1 : n < 1000000)
    (h : ∀ a h' tk, s.heap.objs.size ≤ a → (∀ b o, s.heap.get? b = some o → h'.get? b = some o) → h'.get? a = some (baObj (Array.replicate n.toNat 0)) → Q (.ref a) { s with heap := h', toks := tk }) :
    wpX (model prog w) A (call (.type "bytearray") [.int n t]) Q E s := by
  have ft := FB.called
  obtain ⟨c, tl, hmro⟩ := ft.mro
  have hmade := ft.made
  have hsub := ft.sub
  have hct := FB.typeCall (.int n t)
  refine wpX_call (codeX_of_tree rfl ?_)
  show wpX _ _ (callAny (.type "bytearray") _) _ _ _
  refine wpX_of_any (wpAny_pure ⟨Code.quiet_builtin _ (by decide +kernel), codeX_builtin F.entry_type_call (show badIds.contains "type.__call__" = false from by decide +kernel) ?_⟩)
  rw [Around.under_plain (weight_type_call_type "bytearray" [.int n t] []) rfl]
  have h2 := ft.notType
  have h3 := ft.canCreate
  unfold Builtin.«type.__call__»
  dsimp only
  refine wpX_if_false h2 ?_
  refine wpX_if_false h3 ?_
  refine wpX_bindA (wpAny_of_eq hct ?_)
  refine wpX_bindA (wpAny_of_eq hmro ?_)
  refine wpX_if_false rfl ?_
  refine wpX_bindA (wpAny_of_eq hmade ?_)
  dsimp only
  refine wpX_bindA (wpAny_pure ?_)
  refine wpX_bind (wpX_holding (wpX_call (codeX_mono (codeX_of_any (ba_new (Q₁ := fun obj s₁ => obj = .ref s.heap.objs.size ∧ s₁ = { s with heap := s.heap.push (baObj #[]) }) (E := fun e s' => E e s') (.int n t) ⟨rfl, rfl⟩)) fun r s' hr => ?_)))
  rcases r with e | (v | _ | _ | obj) <;> first | exact hr | exact hr.elim | skip
  obtain ⟨rfl, rfl⟩ := hr
  have ho : ({ s with heap := s.heap.push (baObj #[]) } : Shared).heap.get? s.heap.objs.size = some (baObj #[]) := Heap.get?_push_size _ rfl
  have hT : ({ s with heap := s.heap.push (baObj #[]) } : Shared).TypeIs (.ref s.heap.objs.size) "bytearray" := ⟨_, ho, rfl⟩
  refine wpX_bindA (wpAny_isInstance hT hsub ?_)
  refine wpX_if_false rfl ?_
  refine wpX_bind (wpX_holding ?_)
  unfold callSpecial?
  refine wpX_bindA (wpAny_specialOf hT ft.init.lookup ?_)
  refine wpX_holding ?_
  refine wpX_bindA (wpAny_of_eq (ft.init.bind _) ?_)
  dsimp only
  refine wpX_bind (wpX_call (codeX_of_tree rfl ?_))
  show wpX _ A.in1.in1 (do checkBuiltinCall "bytearray.__init__" ⟨[.ref s.heap.objs.size, .int n t], []⟩; again (.builtin "bytearray.__init__" ⟨[.ref s.heap.objs.size, .int n t], []⟩)) _ _ _
  refine wpX_bindA (ft.init.check _ _ _ _ _ _ _ _ hT (FB.args_init _ _) ?_)
  refine wpX_pure ⟨plainId_quiet ft.init.plain _, codeX_builtin FB.entry_init (show badIds.contains "bytearray.__init__" = false from by decide +kernel) ?_⟩
  rw [Around.under_plainId ft.init.plain _]
  refine ba_init (by exact hh) h0 h1 ho fun h' tk hsb hh' => ?_
  refine wpX_pure ?_
  dsimp only
  refine wpX_if_false rfl ?_
  refine wpX_pure ?_
  refine h _ h' tk (Nat.le_refl _) (fun b o e => ?_) hh'
  exact hsb.extBut b o (Nat.ne_of_lt (Heap.lt_size e)) (Heap.get?_push_of_some _ e)
end
end Mine
end
section
open PySem PySem.W PyProof.Rows PySem.Calls
open PySem.Sem (wp)
set_option maxRecDepth 100000
namespace Mine
namespace FB
theorem slot_setitem : Slot "bytearray" "__setitem__" "bytearray.__setitem__" :=
  .of (owner := "bytearray") (n := "__setitem__") (by rw [typeLookup_type, builtinLookup_eq_fast]; kernel_rfl) (by decide +kernel) (by decide +kernel) (by decide +kernel)
    (by first | exact .inl (by decide +kernel) | exact .inr (by decide +kernel)) (by rw [isSubtype_type]; kernel_rfl)
theorem entry_setitem : entryFor table "bytearray.__setitem__" = some Builtin.«bytearray.__setitem__» := entryFor_of_tree (by kernel_rfl)
theorem args_setitem (a b c : Value) : argsOk "bytearray.__setitem__" ⟨[a, b, c], []⟩ := by unfold argsOk; kernel_rfl
theorem no_bytes : typeLookup (.type "bytearray") "__bytes__" = pure none := by rw [typeLookup_type, builtinLookup_eq_fast]; kernel_rfl
theorem lk_noindex : typeLookup (.type "bytearray") "__index__" = pure none := by rw [typeLookup_type, builtinLookup_eq_fast]; kernel_rfl
theorem lk_buffer : typeLookup (.type "bytearray") "__buffer__" = pure (some (.builtin "bytearray.__buffer__")) := by rw [typeLookup_type, builtinLookup_eq_fast]; kernel_rfl
end FB
section
variable {prog : Program} {w : World} {A : Around} {E : Value → Shared → Prop} {s : Shared}
theorem rel_ba {v : Value} {M : Model} {Q : Bool → Shared → Prop} (hT : s.TypeIs v "bytearray") (hq : Q false s) : wpAny M A (Builtin.Bytes.ownRelease v) Q E s := by
  unfold Builtin.Bytes.ownRelease Builtin.Bytes.slotIsOwn
  refine wpAny_bind (wpAny_bind (wpAny_specialOf hT FB.lk_release ?_))
  dsimp only
  rw [show ("bytearray.__release_buffer__".endsWith ("." ++ "__release_buffer__")) = true from by decide +kernel]
  refine wpAny_isInstance hT (b := true) (by rw [show ("bytearray.__release_buffer__".dropRight ("__release_buffer__".length + 1)) = "bytearray" from by decide +kernel]; exact FB.sub_self) ?_
  exact wpAny_pure hq
theorem ba_setAt {a : Addr} {b : Array UInt8} {k x : Int} {t u : Tok} {Q : Unit → Shared → Prop} (ho : s.heap.get? a = some (baObj b)) (h0 : 0 ≤ k) (hn : k < b.size) (hz : b.size ≤ 1000000) (hx : 0 ≤ x ∧ x < 256)
    (hQ : Q () { s with heap := s.heap.update a (Obj.mapBytearray (·.setIfInBounds k.toNat x.toNat.toUInt8)) }) : wpAny (model prog w) A (setItem (.ref a) (.int k t) (.int x u)) Q E s := by
  have hT : s.TypeIs (.ref a) "bytearray" := ⟨_, ho, rfl⟩
  unfold setItem
  try with_reducible refine wpAny_holding ?_
  first | refine wpAny_bind (wpAny_pure ?_) | skip
  refine wpAny_bind (wpAny_sequenceKey hT (by decide) ?_)
  refine wpAny_bind (wpAny_callSpecial?_slot (name := Str.ofString "__setitem__") hT FB.slot_setitem
    (wpAny_call_entry FB.slot_setitem hT FB.entry_setitem ?_ (FB.args_setitem _ _ _)))
  unfold Builtin.«bytearray.__setitem__»
  refine bm_if_false rfl ?_
  dsimp only
  unfold Builtin.Bytes.subscript?
  refine wpAny_bind (wpAny_bind (wpAny_specialOf (T := "int") rfl FB.lk_index ?_))
  refine bm_if_false rfl ?_
  refine wpAny_bind (wpAny_of_eq (a := k) rfl ?_)
  refine bm_if_false (by unfold Builtin.Bytes.fitsIndex; simp only [Bool.not_eq_false', decide_eq_true_eq, Bool.and_eq_true]; omega) ?_
  refine wpAny_pure ?_
  dsimp only
  unfold Builtin.Bytes.byteValue
  refine wpAny_bind (wpAny_bind (wpAny_of_eq (a := x) rfl ?_))
  refine bm_if_false (by simp only [Bool.or_eq_false_iff, decide_eq_false_iff_not]; omega) ?_
  refine wpAny_pure ?_
  unfold Builtin.Bytes.payload Builtin.Bytes.payload?
  refine wpAny_bind (wpAny_bind (wpAny_bind (wpAny_load ho (wpAny_pure (wpAny_pure ?_)))))
  have hi : seqIndex? k b.size = some k.toNat := by
    unfold seqIndex?
    have e1 : (if k < 0 then k + (b.size : Int) else k) = k := if_neg (by omega)
    simp only [e1]
    rw [if_pos (by simp only [Bool.and_eq_true, decide_eq_true_eq]; omega)]
  rw [hi]
  dsimp only
  refine wpAny_bind (write_ba ho (by rw [Array.size_setIfInBounds]; simp [sizeLine]; omega) ?_)
  first
    | exact wpAny_bind (wpAny_pure (wpAny_pure ⟨.none, rfl, wpAny_pure hQ⟩))
    | exact wpAny_pure ⟨.none, rfl, wpAny_pure hQ⟩
theorem ba_bytes {a : Addr} {b : Array UInt8} {Q : Value → Shared → Prop} (ho : s.heap.get? a = some (baObj b)) (hz : b.size ≤ 1000000) (hh : A.handled = none)
    (hQ : ∀ t k, Q (.bytes b t) { s with toks := k }) : wpAny (model prog w) A (call (.type "bytes") [.ref a]) Q E s := by
  have hT : s.TypeIs (.ref a) "bytearray" := ⟨_, ho, rfl⟩
  refine callType_codes (Q₁ := fun obj s₁ => s₁.TypeIs obj "bytes" ∧ Q obj s₁) F.bm_called (F.bm_typeCall _) F.entry_object_init
    ?_ fun obj s₁ h₁ => ?_
  · refine codeAny_of_tree ?_
    show wpAny _ A.in1.in1 (do checkBuiltinCall "bytes.__new__" ⟨[.type "bytes", .ref a], []⟩; again (.builtin "bytes.__new__" ⟨[.type "bytes", .ref a], []⟩)) _ _ s
    refine wpAny_bind (wpAny_of_eq (F.bm_newCall _) (wpAny_pure ⟨plainId_quiet F.bm_plain _, codeAny_builtin F.bm_entry ?_⟩))
    rw [Around.under_plainId F.bm_plain _]
    unfold Builtin.«bytes.__new__»
    refine wpAny_bind (wpAny_of_eq (a := true) rfl ?_)
    refine bm_if_false rfl ?_
    refine wpAny_bind (wpAny_of_eq F.bm_sub ?_)
    refine bm_if_false rfl ?_
    refine wpAny_bind (wpAny_of_eq (F.bm_bind _) ?_)
    refine wpAny_bind (wpAny_of_eq (a := ()) rfl ?_)
    refine wpAny_bind (wpAny_of_eq (a := ()) rfl ?_)
    refine bm_if_false rfl ?_
    refine wpAny_bind (wpAny_specialOf hT FB.no_bytes ?_)
    refine wpAny_bind (wpAny_bind ?_)
    show wpAny _ _ (load a >>= _) _ _ _
    refine wpAny_bind (wpAny_load ho ?_)
    refine wpAny_pure (wpAny_pure ?_)
    refine bm_if_false rfl ?_
    refine wpAny_bind (wpAny_specialOf hT FB.lk_noindex ?_)
    refine bm_if_true rfl ?_
    first
      | show wpAny _ _ (Builtin.Bytes.buffer? "bytes.__new__" (.ref a) true >>= _) _ _ _
      | (refine wpAny_bind ?_; show wpAny _ _ (Builtin.Bytes.buffer? "bytes.__new__" (.ref a) true >>= _) _ _ _)
    refine wpAny_bind ?_
    unfold Builtin.Bytes.buffer?
    refine wpAny_bind (wpAny_specialOf hT FB.lk_buffer ?_)
    dsimp only
    unfold Builtin.Bytes.slotIsOwn
    refine wpAny_bind (wpAny_bind (wpAny_specialOf hT FB.lk_buffer ?_))
    dsimp only
    rw [show ("bytearray.__buffer__".endsWith ("." ++ "__buffer__")) = true from by decide +kernel]
    refine wpAny_isInstance hT (b := true) (by rw [show ("bytearray.__buffer__".dropRight ("__buffer__".length + 1)) = "bytearray" from by decide +kernel]; exact FB.sub_self) ?_
    refine bm_if_false rfl ?_
    refine wpAny_bind (wpAny_specialOf hT FB.lk_buffer ?_)
    show wpAny _ _ (Builtin.Bytes.ownRelease (.ref a) >>= _) _ _ _
    refine wpAny_bind (rel_ba hT ?_)
    refine bm_if_false rfl ?_
    unfold Builtin.Bytes.payload Builtin.Bytes.payload?
    refine wpAny_bind (wpAny_bind (wpAny_bind (wpAny_load ho (wpAny_pure (wpAny_pure (wpAny_pure ?_))))))
    dsimp only
    refine wpAny_bind (wpAny_rule ?_)
    refine wpAny_bind (wpAny_mkBytes ?_ (by simp [sizeLine]; omega))
    show wpAny _ _ (if (Value.type "bytes" == Value.type "bytes") = true then _ else _) _ _ _
    refine bm_if_true (by decide) ?_
    first
      | exact wpAny_pure ⟨typeIs_bytes _ _ _, hQ _ _⟩
      | exact wpAny_bind (wpAny_pure (wpAny_pure ⟨typeIs_bytes _ _ _, hQ _ _⟩))
  · exact ⟨h₁.1, F.args_object_init_2 obj _, object_init_meets F.bm_called.init.lookup F.bm_called.made (by decide) prog w A.in1 _ s₁ ⟨h₁.1, rfl, h₁.2⟩⟩
end
end Mine
end
section
open PySem PySem.W PyProof.Rows PySem.Calls
open PySem.Sem (wp)
set_option maxRecDepth 100000
namespace Mine
section
variable {α : Type} {M : Model} {A : Around} {E : Value → Shared → Prop} {s : Shared} {env : Env}
theorem wpX_keep {vs : List Value} {m : Sem α} {Q : α → Shared → Prop} (h : wpX M A m Q E s) : wpX M A (m.keep vs) Q E s :=
  fun Γ p h1 h2 hΓ => by rw [Sem.wp_keep]; exact h Γ p h1 h2 hΓ
theorem wpX_execs_cons {st : Stmt} {rest : List Stmt} {Q : Flow → Shared → Prop}
    (h : wpX M A (exec st env) (fun f s' => match f with | .next => wpX M A (execs rest env) Q E s' | f => Q f s') E s) : wpX M A (execs (st :: rest) env) Q E s := fun Γ p h1 h2 hΓ => by
  rw [execs_cons, Sem.wp_bind']
  refine Sem.wp_mono M Γ _ (fun f p' s' h' => ?_) (fun _ _ _ h' => h') _ _ (h Γ p h1 h2 hΓ)
  cases f <;> first | exact h' Γ p' h1 h2 hΓ | exact h'
theorem wpX_Assign_Name {x : Str} {pos' pos : Pos} {value : Expr} {Q : Flow → Shared → Prop}
    (h : wpX M A (eval value env) (fun v s₁ => wpAny M A (storeName env x v) (fun _ => Q .next) E s₁) E s)
    (hs : swapsWith value (some (.Name x pos')) pos.line env = pure false := by rfl) :
    wpX M A (exec (.Assign [.Name x pos'] value pos) env) Q E s := fun Γ p h1 h2 hΓ => by
  simp only [exec_Assign_Name env x pos' value pos hs, Sem.wp_bind', Sem.wp_cmd_standAt, Sem.wp_bindName, Sem.wp_pure']
  exact Sem.wp_mono M Γ _ (fun v _ s₁ h₁ => h₁ Γ _ hΓ) (fun _ _ _ h' => h') _ _ (h Γ _ h1 h2 hΓ)
theorem wpX_Call {func : Expr} {args : List Expr} {pos : Pos} {Q : Value → Shared → Prop}
    (h : wpAny M A (eval func env) (fun f s₁ => wpX M A (callWith pos f [] (backTo pos (starEach args env)) []) Q E s₁) E s)
    (he : eval (.Call func args [] pos) env = (do callWith pos (← eval func env) [] (backTo pos (starEach args env)) (backToKw pos (keywordEach [] env))) := by rfl) :
    wpX M A (eval (.Call func args [] pos) env) Q E s := by
  rw [he]; exact wpX_bindA h
theorem callWithX_of {P : Heap → Prop} {pos : Pos} {f : Value} {first : List Value} {args : List (Bool × Sem Value)} {keywords : List (Option Str × Sem Value)} {Q : Value → Shared → Prop} (hplain : (args.any (·.1) || keywords.any (·.1.isNone)) = false)
    (hk : ∀ h, P h → ∃ k, (k = Keeper.frame ∨ k = Keeper.machine ∨ k = Keeper.boundFrame) ∧ Looks M h (keeperOf f) k)
    (h : wpAny M A (evalArgs f true args keywords) (fun a s₁ => P s₁.heap ∧ wpX M A (call f (first ++ a.pos) a.kw) Q E s₁) E s) : wpX M A (callWith pos f first args keywords) Q E s := by
  unfold callWith
  refine wpX_bindA (wpAny_holding (wpAny_mono h (fun a s₁ h₁ => wpX_bindA (wpAny_standAt ?_)) fun _ _ x => x))
  obtain ⟨k, hk', L⟩ := hk _ h₁.1
  simp only [hplain]
  refine wpX_bindA (L.here ?_)
  have tail : ∀ {t : Sem Value}, wpX M A t Q E s₁ → wpX M A (t >>= fun r => holding [r] point >>= fun _ => pure r) Q E s₁ :=
    fun ht => wpX_bind (wpX_mono ht (fun r s₂ hr => wpX_of_any (wpAny_bind (wpAny_holding (wpAny_point (wpAny_pure hr))))) fun _ _ x => x)
  have marked (mk : Value) : wpX M A (callMarked mk f (first ++ a.pos) a.kw) Q E s₁ := by unfold callMarked; exact wpX_keep h₁.2
  rcases hk' with rfl | rfl | rfl <;> dsimp only <;> first | exact tail h₁.2 | (split <;> first | exact tail h₁.2 | exact tail (marked _))
theorem callWithX_K {K : Frag} {pos : Pos} {f : Value} {first : List Value} {e : Expr} {rest : List Expr} {Q : Value → Shared → Prop} (hk : keepIn K f = true)
    (h : wpAny M A (spliced (backTo pos (starEach (e :: rest) env))) (fun vs s₁ => K.In s₁.heap ∧ wpX M A (call f (first ++ vs)) Q E s₁) E s)
    (he : starEach (e :: rest) env = (false, eval e env) :: starEach rest env := by rfl) (hplain : (backTo pos (starEach rest env)).any (·.1) = false := by rfl) :
    wpX M A (callWith pos f first (backTo pos (starEach (e :: rest) env)) []) Q E s := by
  rw [he] at h ⊢
  exact callWithX_of (by show ((false || (backTo pos (starEach rest env)).any (·.1)) || false) = false; rw [hplain]; rfl) (keeps_K hk) (evalArgs_plain h)
theorem callWithX_type1 {pos : Pos} {T : String} {e : Expr} {rest : List Expr} {Q : Value → Shared → Prop}
    (h : wpAny M A (spliced (backTo pos (starEach (e :: rest) env))) (fun vs s₁ => wpX M A (call (.type T) vs) Q E s₁) E s)
    (he : starEach (e :: rest) env = (false, eval e env) :: starEach rest env := by rfl)
    (hplain : (backTo pos (starEach rest env)).any (·.1) = false := by rfl) :
    wpX M A (callWith pos (.type T) [] (backTo pos (starEach (e :: rest) env)) []) Q E s := by
  rw [he] at h ⊢
  refine callWithX_of (P := fun _ => True) (by show ((false || (backTo pos (starEach rest env)).any (·.1)) || false) = false; rw [hplain]; rfl)
    (fun h _ => ⟨.machine, .inr (.inl rfl), Looks.of_pure rfl⟩) (evalArgs_plain (wpAny_mono h (fun vs s₁ h₁ => ⟨trivial, h₁⟩) fun _ _ x => x))
end
section
variable {prog : Program} {w : World} {A : Around} {s : Shared} {R : Result → Shared → Prop}
theorem codeX_func {body : List Stmt} {env : Env}
    (h : wpX (model prog w) (A.deeper env) (execs body env) (fun f s' => R (.ok (.ret (match f with | .ret v => v | _ => .none))) s')
      (fun e s' => wpAny (model prog w) (A.deeper env) (leaving env e) (fun _ s'' => R (.error e) s'') (fun e' s'' => R (.error e') s'') s') s) :
    codeX (model prog w) A (.func body env) R s := by
  refine codeX_of_tree rfl ?_
  show wpX _ (A.deeper env) (do point; match ← (execs body env).onRaise (leaving env) with | .ret v => ret v | _ => ret .none) _ _ s
  refine wpX_bindA (wpAny_point (wpX_bind (wpX_onRaise (wpX_mono h (fun f s' h' => ?_) fun _ _ h' => h'))))
  cases f <;> exact wpX_pure h'
theorem codeX_call_function {a : Addr} {args : Args} {o : Obj} {fd : FuncData} {body : List Stmt} (hroom : A.depth < recursionLimit)
    (ho : s.heap.get? a = some o)
    (hd' : o.data = .func fd) (hco : fd.scope.isCoroutine = false) (hgen : fd.scope.isGenerator = false) (hbody : fd.body = .stmts body) (hcd : s.heap.CodeRec fd.code fd.qualname)
    (h : wpAny (model prog w) A.in1 (bindArgs fd args) (fun binds s₁ =>
      wpAny (model prog w) A.in1 (newFunctionEnv fd.scope fd.globals fd.closure binds (fd.qualname ++ ".<locals>.") (some a) fd.code none fd.builtins)
        (fun env s₂ => s₂.heap.NoLimit ∧ codeX (model prog w) A (.func body env) R s₂) (fun e s' => R (.error e) s') s₁) (fun e s' => R (.error e) s') s) :
    codeX (model prog w) A (.call (.ref a) args) R s := by
  refine codeX_of_tree rfl ?_
  show wpX _ A.in1 (callAny (.ref a) args) _ _ s
  simp only [callAny]
  refine wpX_bindA (wpAny_load ho ?_)
  obtain ⟨c, oc, vs, tq, hc, hoc, hdc, hq⟩ := hcd
  simp only [hd', callFunction, hco, hgen, hbody, hc]
  rw [hc] at h
  refine wpX_of_any ?_
  refine wpAny_bind (m := field (.ref c) 1) (wpAny_field hoc hdc hq (wpAny_bind (wpAny_pure ?_)))
  exact wpAny_bind (wpAny_mono h (fun binds s₁ h₁ => wpAny_bind (wpAny_mono h₁ (fun env s₂ h₂ => wpAny_bind (wpAny_enterFrame h₂.1 hroom
    (wpAny_pure (And.intro rfl h₂.2)))) fun _ _ h' => h')) fun _ _ h' => h')
end
section
variable {prog : Program} {w : World} {A₀ A : Around} {s : Shared} {base h₀ : Heap} {outer : List Env} {L : Addr} {m : Str → Option Value} {env : Env} {news : Led} {mg mb : Str → Option Value} {p : Program} {loose : List Str} {mean : ExcName → Option Value}
  {R : Result → Shared → Prop} {name qual : Str} {params : Arguments} {body : List Stmt} {scope : Scope} {dV kV doc pm cdv ct oc : Value} {an od : Option Addr} {osl : Array (Option Value)} {f : Addr} {args : Args} {binds : List (Str × Value)} {K : Frag}
theorem code_defX
    (B : Below A₀ base outer h₀) (F : Fr h₀ L s.heap m) (X₀ : K.In h₀) (N : News h₀ L s.heap news) (T : Top p loose mean mg mb h₀) (hA : A.frames = some (env :: outer)) (hf : env.frame = some L) (hke : env.scope.kind = .function)
    (ho : K.lookup f = some ⟨oc, od, .func (fnOf name qual params body scope dV kV doc pm an cdv ct), osl⟩) (hcd : codeIn K cdv qual = true) (hroom : A.depth < recursionLimit)
    (hbind : BindsTo s (fnOf name qual params body scope dV kV doc pm an cdv ct) args binds) (hloc : ∀ y ∈ binds, scope.names.lookup y.1 = some .local)
    (h : ∀ g L' h₁, Fr h₀ L g m → Fr g L' h₁ (fun y => binds.reverse.lookup y) → News g L' h₁ news → Below A base (env :: outer) g → K.In g → Top p loose mean mg mb g →
      wpX (model prog w) (A.deeper (envOf qual scope L' f cdv)) (execs body (envOf qual scope L' f cdv))
        (fun fl s' => LeaveK h₀ L m g R (match fl with | .ret v => v | _ => .none) s')
        (fun e s' => wpAny (model prog w) (A.deeper (envOf qual scope L' f cdv)) (leaving (envOf qual scope L' f cdv) e) (fun _ s'' => R (.error e) s'') (fun e' s'' => R (.error e') s'') s')
        { s with heap := h₁, toks := s.toks + binds.length })
    (hco : scope.isCoroutine = false) (hgen : scope.isGenerator = false) (hk : scope.kind = .function)
    (hcell : ∀ x ∈ scope.names, x.2 ≠ .cell) : codeX (model prog w) A (.call (.ref f) args) R s := by
  obtain ⟨FG, BG, st, lv⟩ := groundX (R := R) B F N hA hf hke
  have X := X₀.keeps F.keep
  have ho' := X _ _ ho
  refine codeX_call_function hroom ho' rfl hco hgen rfl (codeRec_of X hcd) (hbind _ _ _ _ ?_)
  refine wpAny_newFunctionEnv hcell hloc (fun h₁ hns hsb => ⟨(T.nolimit.keeps F.keep).fresh _ hsb, codeX_func ?_⟩) hk
  have hk₁ : ∀ b o, s.heap.get? b = some o → h₁.get? b = some o := fun b o e => hsb.extBut b o (Nat.ne_of_lt (Heap.lt_size e)) (Heap.get?_push_of_some _ e)
  exact wpX_mono (h _ s.heap.objs.size h₁ FG ⟨hns, fun b o e => hk₁ b o (of_hideAll _ e), Nat.le_of_eq (hideAll_size _ _)⟩
    (fun p hp => ⟨hk₁ _ _ (N p hp).1, Nat.ne_of_lt (Heap.lt_size (N p hp).1), hideAll_none _ (List.mem_map_of_mem hp)⟩) BG (X₀.keeps st) (T.keeps st)) (fun fl s' hl => lv _ _ hl) fun _ _ y => y
end
noncomputable def SpecX (prog : Program) (w : World) (K : Frag) (p : Program) (loose : List Str) (mean : ExcName → Option Value) (mg mb : Str → Option Value) (dd uu : Nat) (f : Addr) (vs : List Value) (T : Led) (Post : Value → Led → Prop) : Prop :=
  ∀ (dp un : Nat) (gd : Option (List Code)) (cn : Str) (cs : Scope) (a : Addr) (ccd : Value) (cl : List (Str × Addr)) (outer : List Env) (A₀ : Around) (base h₀ : Heap) (L : Addr) (m : Str → Option Value) (s : Shared) (Q E : Value → Shared → Prop),
    Below A₀ base outer h₀ → Fr h₀ L s.heap m → K.In h₀ → News h₀ L s.heap T → Top p loose mean mg mb h₀ → cs.kind = .function → dp + dd < recursionLimit → un + uu < cLine →
    (∀ (r : Value) (new : Led) (h' : Heap) (tk' : Nat), Fr h₀ L h' m → News h₀ L h' (new ++ T) → (∀ q ∈ T, ∀ p ∈ new, q.1 < p.1) → Post r new → Q r { s with heap := h', toks := tk' }) →
    wpX (model prog w) (ktrTop dp un gd cn cs L a ccd cl outer) (call (.ref f) vs) Q E s
end Mine
end
section
open PySem PySem.W PyProof.Rows PySem.Calls
set_option maxRecDepth 100000
namespace Mine
noncomputable def Stop (P : Prop) : Prop := P
theorem Stop.mk {P : Prop} (h : Stop P) : P := h
theorem Stop.in {P : Prop} (h : P) : Stop P := h
noncomputable def TurnJ (h₀ : Heap) (L I : Addr) (it : Obj) (Jn : (Str → Option Value) → Led → Prop) (s₁ : Shared) (Q : Flow → Shared → Prop) (f : Flow) (s₂ : Shared) : Prop :=
  match f with
  | .ret v => Q (.ret v) s₂
  | .brk => Q .next s₂
  | _ => ∃ h' tk m' news', s₂ = { s₁ with heap := h', toks := tk } ∧ Fr h₀ L h' m' ∧ News h₀ L h' ((I, it) :: news') ∧ (∀ p ∈ news', p.1 ≠ I) ∧ Jn m' news'
section
variable {prog : Program} {w : World} {A : Around} {E : Value → Shared → Prop} {s : Shared} {env : Env} {h₀ : Heap} {x : Str} {body : List Stmt} {Q : Flow → Shared → Prop}
theorem loop_gen {I : Addr} {fp : List Addr} {n : Nat} {P : Nat → Value → Prop} {St : Nat → Heap → Prop} {m₀ : Str → Option Value} {news fix : Led} (ic : Obj → Prop) (J : Nat → (Str → Option Value) → Led → Prop)
    (W : Walks prog w A I fp [I] n P St) (hfI : I ∈ fp) (hLf : env.locals ∉ fp) (hI : h₀.get? I = none) (hob : ∀ i h, St i h → ∃ o, h.get? I = some o ∧ ic o)
    (hfp : ∀ b ∈ fp, b = I ∨ (∃ q, h₀.get? b = some q) ∨ ∃ o, (b, o) ∈ fix) (hfix : ∀ i m led, J i m led → ∀ p ∈ fix, p ∈ led)
    (hnw : ∀ p ∈ news, p.1 ≠ I) (hst : St 0 s.heap) (F : Fr h₀ env.locals s.heap m₀) (N : News h₀ env.locals s.heap news) (hj : J 0 m₀ news)
    (turn : ∀ i v m₁ news₁ h tk it, i < n → P i v → J i m₁ news₁ → (∀ p ∈ news₁, p.1 ≠ I) → ic it → Fr h₀ env.locals h (fun y => if y = x then some v else m₁ y) → News h₀ env.locals h ((I, it) :: news₁) →
      wpAny (model prog w) A (execs body env) (TurnJ h₀ env.locals I it (J (i + 1)) { s with heap := h, toks := tk } Q) E { s with heap := h, toks := tk })
    (done : ∀ m₁ news₁ h tk, J n m₁ news₁ → Fr h₀ env.locals h m₁ → News h₀ env.locals h news₁ → Q .next { s with heap := h, toks := tk }) :
    LoopAtV prog w A h₀ env x body Q E (.ref I) s := by
  refine ⟨I, fp, [I], n, P, St, m₀, news, J, rfl, W, hLf, ?_, ?_, hst, F, N, hj, ?_, ?_⟩
  · intro b hb; rw [List.mem_singleton.mp hb]; exact hI
  · intro p hp hm; exact hnw p hp (List.mem_singleton.mp hm)
  · rintro i v m₁ news₁ s₁ own ⟨hh', tk', rfl⟩ hin hP hJ hoff hown hheap hall hst' F₁ N₁
    obtain ⟨it, hit, hic⟩ := hob _ _ hst'
    have hio : (I, it) ∈ own := hall I hfI hI it hit
    have hn1 : ∀ p ∈ news₁, p.1 ≠ I := fun p hp e => hoff p hp (by rw [e]; exact List.mem_singleton.mpr rfl)
    have N₂ : News h₀ env.locals hh' ((I, it) :: news₁) := fun p hp => by
      rcases List.mem_cons.mp hp with e | hp
      · rw [e]; exact N₁ _ (List.mem_append_left _ hio)
      · exact N₁ _ (List.mem_append_right _ hp)
    refine wpAny_mono (turn i v m₁ news₁ hh' tk' it hin hP hJ hn1 hic F₁ N₂) (fun f s₂ p => ?_) fun _ _ e => e
    have fin : (∃ h' tk m' news', s₂ = { ({ s with heap := hh', toks := tk' } : Shared) with heap := h', toks := tk } ∧ Fr h₀ env.locals h' m' ∧ News h₀ env.locals h' ((I, it) :: news') ∧ (∀ p ∈ news', p.1 ≠ I) ∧ J (i + 1) m' news') →
        LoopStepU h₀ env.locals [I] own (J (i + 1)) { s with heap := hh', toks := tk' } .next s₂ := by
      rintro ⟨h', tk, m', news', e, F', N', hn, hj'⟩
      refine ⟨rfl, h', tk, m', news', e, F', fun p hp => ?_, fun p hp hm => hn p hp (List.mem_singleton.mp hm), hj'⟩
      rcases List.mem_append.mp hp with hp | hp
      · rcases hfp p.1 (hown p hp) with e1 | ⟨q, hq⟩ | ⟨o, ho⟩
        · have h4 := hheap p hp
          rw [e1, show ({ s with heap := hh', toks := tk' } : Shared).heap.get? I = some it from hit] at h4
          have e2 : p = (I, it) := Prod.ext e1 (Option.some.inj h4).symm
          rw [e2]; exact N' _ (.head _)
        · have h5 := (N₁ p (List.mem_append_left _ hp)).2.2
          rw [hq] at h5; cases h5
        · have h6 := hfix _ _ _ hJ _ ho
          have h7 := (N₁ _ (List.mem_append_right _ h6)).1
          have h8 := hheap p hp
          rw [show ({ s with heap := hh', toks := tk' } : Shared).heap = hh' from rfl] at h8
          rw [h7] at h8
          have e2 : p = (p.1, o) := Prod.ext rfl (Option.some.inj h8).symm
          rw [e2]; exact N' _ (.tail _ (hfix _ _ _ hj' _ ho))
      · exact N' _ (.tail _ hp)
    cases f with
    | ret v => exact .ret p
    | brk => exact .brk p
    | next => exact .next (fin p)
    | cont => exact .cont (fin p)
  · rintro h' tk m' news' F' N' _ hJ
    exact done m' news' h' tk hJ F' N'

theorem iter_rangeJ {r : Addr} {a b c : Int} {t u v : Tok} {n : Nat} {m₀ : Str → Option Value} {news : Led} (J : Nat → (Str → Option Value) → Led → Prop)
    (hh : A.handled = none) (hr : IsRange s.heap r a b c t u v) (hsmall : Builtin.Range.small a b c = true) (hn : Builtin.Range.rangeSize a b c = (n : Int)) (F : Fr h₀ env.locals s.heap m₀) (N : News h₀ env.locals s.heap news) (hj : J 0 m₀ news)
    (turn : ∀ I i t' m₁ news₁ h tk it, i < n → J i m₁ news₁ → (∀ p ∈ news₁, p.1 ≠ I) → (∀ p ∈ news, @LT.lt Nat _ p.1 I) → it.cls = .type "range_iterator" → Fr h₀ env.locals h (fun y => if y = x then some (.int (a + (i : Int) * c) t') else m₁ y) → News h₀ env.locals h ((I, it) :: news₁) →
      wpAny (model prog w) A (execs body env) (TurnJ h₀ env.locals I it (J (i + 1)) { s with heap := h, toks := tk } Q) E { s with heap := h, toks := tk })
    (done : ∀ m₁ news₁ h tk, J n m₁ news₁ → Fr h₀ env.locals h m₁ → News h₀ env.locals h news₁ → Q .next { s with heap := h, toks := tk }) :
    wpAny (model prog w) A (pyIter (.ref r)) (fun it s₂ => LoopAtV prog w A h₀ env x body Q E it s₂) E s := by
  refine wpAny_pyIter_range hr hsmall ?_
  have W := (Walks.range (prog := prog) (w := w) hh s.heap.objs.size a c n).bound
  have W2 : Walks prog w A s.heap.objs.size [s.heap.objs.size] [s.heap.objs.size] n (fun i v => i < n ∧ ∃ t, v = .int (a + (i : Int) * c) t)
      (fun i h => IsRangeIter h s.heap.objs.size (a + (i : Nat) * c) ((n : Int) - (i : Nat)) c) := W
  refine loop_gen (fix := []) (fun o => o.cls = .type "range_iterator") J W2 (by simp) ?_ (next_is_new F) (fun i h hst => ⟨_, hst, rfl⟩) (fun b hb => .inl (List.mem_singleton.mp hb)) (fun _ _ _ _ _ hp => nomatch hp) (fun p hp e => ?_) ?_ (F.push _) (fun p hp => ⟨Heap.get?_push_of_some _ (N p hp).1, (N p hp).2⟩) hj ?_ ?_
  · intro hm
    exact absurd F.ns.lt ((List.mem_singleton.mp hm) ▸ Nat.lt_irrefl _)
  · exact absurd (Heap.lt_size (N p hp).1) (e ▸ Nat.lt_irrefl _)
  · show IsRangeIter _ _ _ _ _
    rw [hn]
    simpa using Heap.get?_push_size _ rfl
  · rintro i v m₁ news₁ h tk it hi ⟨_, t', rfl⟩ hJ hne hic F₁ N₁
    exact turn _ i t' m₁ news₁ h tk it hi hJ hne (fun p hp => Heap.lt_size (N p hp).1) hic F₁ N₁
  · exact done
theorem iter_listJ {l : Addr} {vs : List Value} {k : Nat} {m₀ : Str → Option Value} {news : Led} (J : Nat → (Str → Option Value) → Led → Prop)
    (hh : A.handled = none) (hl : (l, listOf vs.toArray k) ∈ news) (hfix : ∀ i m led, J i m led → (l, listOf vs.toArray k) ∈ led) (F : Fr h₀ env.locals s.heap m₀) (N : News h₀ env.locals s.heap news) (hj : J 0 m₀ news)
    (turn : ∀ I i v m₁ news₁ h tk it, vs[i]? = some v → J i m₁ news₁ → (∀ p ∈ news₁, p.1 ≠ I) → (∀ p ∈ news, @LT.lt Nat _ p.1 I) → it.cls = .type "list_iterator" → Fr h₀ env.locals h (fun y => if y = x then some v else m₁ y) → News h₀ env.locals h ((I, it) :: news₁) →
      wpAny (model prog w) A (execs body env) (TurnJ h₀ env.locals I it (J (i + 1)) { s with heap := h, toks := tk } Q) E { s with heap := h, toks := tk })
    (done : ∀ m₁ news₁ h tk, J vs.length m₁ news₁ → Fr h₀ env.locals h m₁ → News h₀ env.locals h news₁ → Q .next { s with heap := h, toks := tk }) :
    wpAny (model prog w) A (pyIter (.ref l)) (fun it s₂ => LoopAtV prog w A h₀ env x body Q E it s₂) E s := by
  have hls : s.heap.IsList l vs.toArray := PySem.IsL.isList (n := k) (N _ hl).1
  have hne : l ≠ s.heap.objs.size := Nat.ne_of_lt (Heap.lt_size (N _ hl).1)
  refine wpAny_pyIter_list hls ?_
  have W := Walks.list (prog := prog) (w := w) hh s.heap.objs.size l hne vs.toArray
  rw [List.size_toArray] at W
  refine loop_gen (fix := [(l, listOf vs.toArray k)]) (fun o => o.cls = .type "list_iterator") J W (by simp) ?_ (next_is_new F) (fun i h hst => ?_) (fun b hb => ?_) (fun i m led hj p hp => by rw [List.mem_singleton.mp hp]; exact hfix i m led hj) (fun p hp e => ?_)
    ⟨⟨_, Heap.get?_push_size _ rfl, rfl, rfl⟩, hls.at fun o e => Heap.get?_push_of_some _ e⟩ (F.push _) (fun p hp => ⟨Heap.get?_push_of_some _ (N p hp).1, (N p hp).2⟩) hj ?_ ?_
  · intro hm
    rcases List.mem_cons.mp hm with e | hm
    · exact absurd F.ns.lt (e ▸ Nat.lt_irrefl _)
    · exact (N _ hl).2.1 (List.mem_singleton.mp hm).symm
  · obtain ⟨⟨o, ho, hc, _⟩, _⟩ := hst
    exact ⟨o, ho, hc⟩
  · rcases List.mem_cons.mp hb with e | hb
    · exact .inl e
    · exact .inr (.inr ⟨listOf vs.toArray k, by rw [List.mem_singleton.mp hb]; exact List.mem_singleton.mpr rfl⟩)
  · exact absurd (Heap.lt_size (N p hp).1) (e ▸ Nat.lt_irrefl _)
  · rintro i v m₁ news₁ h tk it hi hv hJ hne hic F₁ N₁
    exact turn _ i v m₁ news₁ h tk it (by simpa using hv) hJ hne (fun p hp => Heap.lt_size (N p hp).1) hic F₁ N₁
  · exact done
noncomputable def NotCode (o : Obj) : Prop := ∀ (vs : Array Value) (q : Str) (t : Tok), o.data = .fields vs → vs[1]? ≠ some (.str q t)
theorem iter_listN {l : Addr} {vs : List Value} {k : Nat} {m₀ : Str → Option Value} {news : Led} (J : Nat → (Str → Option Value) → Led → Prop)
    (hh : A.handled = none) (hl : (l, listOf vs.toArray k) ∈ news) (hfix : ∀ i m led, J i m led → (l, listOf vs.toArray k) ∈ led) (F : Fr h₀ env.locals s.heap m₀) (N : News h₀ env.locals s.heap news) (hj : J 0 m₀ news)
    (turn : ∀ I i v m₁ news₁ h tk it, vs[i]? = some v → J i m₁ news₁ → (∀ p ∈ news₁, p.1 ≠ I) → (∀ p ∈ news, @LT.lt Nat _ p.1 I) → it.cls = .type "list_iterator" ∧ NotCode it → Fr h₀ env.locals h (fun y => if y = x then some v else m₁ y) → News h₀ env.locals h ((I, it) :: news₁) →
      wpAny (model prog w) A (execs body env) (TurnJ h₀ env.locals I it (J (i + 1)) { s with heap := h, toks := tk } Q) E { s with heap := h, toks := tk })
    (done : ∀ m₁ news₁ h tk, J vs.length m₁ news₁ → Fr h₀ env.locals h m₁ → News h₀ env.locals h news₁ → Q .next { s with heap := h, toks := tk }) :
    wpAny (model prog w) A (pyIter (.ref l)) (fun it s₂ => LoopAtV prog w A h₀ env x body Q E it s₂) E s := by
  have hls : s.heap.IsList l vs.toArray := PySem.IsL.isList (n := k) (N _ hl).1
  have hne : l ≠ s.heap.objs.size := Nat.ne_of_lt (Heap.lt_size (N _ hl).1)
  refine wpAny_pyIter_list hls ?_
  have W := Walks.list (prog := prog) (w := w) hh s.heap.objs.size l hne vs.toArray
  rw [List.size_toArray] at W
  refine loop_gen (fix := [(l, listOf vs.toArray k)]) (fun o => o.cls = .type "list_iterator" ∧ NotCode o) J W (by simp) ?_ (next_is_new F) (fun i h hst => ?_) (fun b hb => ?_) (fun i m led hj p hp => by rw [List.mem_singleton.mp hp]; exact hfix i m led hj) (fun p hp e => ?_)
    ⟨⟨_, Heap.get?_push_size _ rfl, rfl, rfl⟩, hls.at fun o e => Heap.get?_push_of_some _ e⟩ (F.push _) (fun p hp => ⟨Heap.get?_push_of_some _ (N p hp).1, (N p hp).2⟩) hj ?_ ?_
  · intro hm
    rcases List.mem_cons.mp hm with e | hm
    · exact absurd F.ns.lt (e ▸ Nat.lt_irrefl _)
    · exact (N _ hl).2.1 (List.mem_singleton.mp hm).symm
  · obtain ⟨⟨o, ho, hc, hd⟩, _⟩ := hst
    refine ⟨o, ho, hc, fun vs' q t e => ?_⟩
    rw [hd] at e
    cases e
    simp
  · rcases List.mem_cons.mp hb with e | hb
    · exact .inl e
    · exact .inr (.inr ⟨listOf vs.toArray k, by rw [List.mem_singleton.mp hb]; exact List.mem_singleton.mpr rfl⟩)
  · exact absurd (Heap.lt_size (N p hp).1) (e ▸ Nat.lt_irrefl _)
  · rintro i v m₁ news₁ h tk it hi hv hJ hne hic F₁ N₁
    exact turn _ i v m₁ news₁ h tk it (by simpa using hv) hJ hne (fun p hp => Heap.lt_size (N p hp).1) hic F₁ N₁
  · exact done
end
end Mine
end
section
open PySem PySem.W PyProof.Rows PySem.Calls
set_option maxRecDepth 100000
namespace Mine
noncomputable def TurnD (h₀ : Heap) (L I : Addr) (it : Obj) (stored : List Str) (m₀ : Str → Option Value) (d : Addr) (Dn : Obj → Prop) (T : Led) (s₁ : Shared) (Q : Flow → Shared → Prop) (f : Flow) (s₂ : Shared) : Prop :=
  match f with
  | .ret v => Q (.ret v) s₂
  | .brk => Q .next s₂
  | _ => ∃ h' tk m' o, s₂ = { s₁ with heap := h', toks := tk } ∧ Fr h₀ L h' m' ∧ News h₀ L h' ((I, it) :: (d, o) :: T) ∧ (∀ y, stored.contains y = false → m' y = m₀ y) ∧ Dn o
noncomputable def mapD (stored : List Str) (u m₀ : Str → Option Value) : Str → Option Value := fun y => if stored.contains y then u y else m₀ y
theorem mapD_of {stored : List Str} {m' m₀ : Str → Option Value} (h : ∀ y, stored.contains y = false → m' y = m₀ y) : m' = mapD stored m' m₀ := by
  funext y
  unfold mapD
  cases e : stored.contains y with
  | true => rfl
  | false => exact h y e
theorem mapD_self {stored : List Str} {m₀ : Str → Option Value} : m₀ = mapD stored m₀ m₀ := by
  funext y
  unfold mapD
  split <;> rfl
noncomputable def JD (stored : List Str) (m₀ : Str → Option Value) (d : Addr) (T : Led) (Dp : Nat → Obj → Prop) (i : Nat) (m : Str → Option Value) (led : Led) : Prop :=
  ∃ u o, m = mapD stored u m₀ ∧ led = (d, o) :: T ∧ Dp i o
section
variable {prog : Program} {w : World} {A : Around} {E : Value → Shared → Prop} {s : Shared} {env : Env} {h₀ : Heap} {x : Str} {body : List Stmt} {Q : Flow → Shared → Prop}
theorem TurnD.toJ {L I d : Addr} {it : Obj} {stored : List Str} {m₀ : Str → Option Value} {Dp : Nat → Obj → Prop} {T : Led} {s₁ s₂ : Shared} {f : Flow} {i : Nat} (hd : d ≠ I) (hT : ∀ p ∈ T, p.1 ≠ I)
    (h : TurnD h₀ L I it stored m₀ d (Dp i) T s₁ Q f s₂) : TurnJ h₀ L I it (JD stored m₀ d T Dp i) s₁ Q f s₂ := by
  have conv : (∃ h' tk m' o, s₂ = { s₁ with heap := h', toks := tk } ∧ Fr h₀ L h' m' ∧ News h₀ L h' ((I, it) :: (d, o) :: T) ∧ (∀ y, stored.contains y = false → m' y = m₀ y) ∧ Dp i o) →
      ∃ h' tk m' news', s₂ = { s₁ with heap := h', toks := tk } ∧ Fr h₀ L h' m' ∧ News h₀ L h' ((I, it) :: news') ∧ (∀ p ∈ news', p.1 ≠ I) ∧ JD stored m₀ d T Dp i m' news' := by
    rintro ⟨h', tk, m', o, e, F, N, hm, hD⟩
    refine ⟨h', tk, m', (d, o) :: T, e, F, N, fun p hp => ?_, m', o, mapD_of hm, rfl, hD⟩
    rcases List.mem_cons.mp hp with rfl | hp
    · exact hd
    · exact hT p hp
  cases f with
  | ret v => exact h
  | brk => exact h
  | next => exact conv h
  | cont => exact conv h
theorem iter_rangeD {r : Addr} {a b c : Int} {t u v : Tok} {n : Nat} {m₀ : Str → Option Value} {d : Addr} {o₀ : Obj} {T : Led} (stored : List Str) (Dp : Nat → Obj → Prop)
    (hh : A.handled = none) (hr : IsRange s.heap r a b c t u v) (hsmall : Builtin.Range.small a b c = true) (hn : Builtin.Range.rangeSize a b c = (n : Int)) (F : Fr h₀ env.locals s.heap m₀) (N : News h₀ env.locals s.heap ((d, o₀) :: T)) (h0 : Dp 0 o₀)
    (turn : ∀ I i t' u o h tk it, i < n → Dp i o → d ≠ I → (∀ p ∈ T, p.1 ≠ I) → (∀ p ∈ T, @LT.lt Nat _ p.1 I) → @LT.lt Nat _ d I → it.cls = .type "range_iterator" → Fr h₀ env.locals h (fun y => if y = x then some (.int (a + (i : Int) * c) t') else mapD stored u m₀ y) → News h₀ env.locals h ((I, it) :: (d, o) :: T) →
      wpAny (model prog w) A (execs body env) (TurnD h₀ env.locals I it stored m₀ d (Dp (i + 1)) T { s with heap := h, toks := tk } Q) E { s with heap := h, toks := tk })
    (done : ∀ u o h tk, Dp n o → Fr h₀ env.locals h (mapD stored u m₀) → News h₀ env.locals h ((d, o) :: T) → Q .next { s with heap := h, toks := tk }) :
    wpAny (model prog w) A (pyIter (.ref r)) (fun it s₂ => LoopAtV prog w A h₀ env x body Q E it s₂) E s := by
  refine iter_rangeJ (JD stored m₀ d T Dp) hh hr hsmall hn F N ⟨m₀, o₀, mapD_self, rfl, h0⟩ ?_ ?_
  · rintro I i t' m₁ news₁ h tk it hi ⟨u', o, rfl, rfl, hD⟩ hne hlt hic F₁ N₁
    have hd : d ≠ I := hne _ (.head _)
    have hT : ∀ p ∈ T, p.1 ≠ I := fun p hp => hne p (.tail _ hp)
    exact wpAny_mono (turn I i t' u' o h tk it hi hD hd hT (fun p hp => hlt p (.tail _ hp)) (hlt (d, o₀) (.head _)) hic F₁ N₁) (fun f s₂ z => z.toJ hd hT) fun _ _ z => z
  · rintro m₁ news₁ h tk ⟨u', o, rfl, rfl, hD⟩ F₁ N₁
    exact done u' o h tk hD F₁ N₁
end
theorem range_small' {a b c : Int} (ha : 0 ≤ a ∧ a < 1000000) (hb : 0 ≤ b ∧ b < 1000000) (hc : 0 < c ∧ c < 1000000) : Builtin.Range.small a b c = true := by
  have h := Int.ediv_nonneg (a := b - a - 1) (b := c)
  have h2 : (b - a - 1) / c ≤ 1000000 := by
    apply Int.le_of_lt_add_one
    apply Int.ediv_lt_of_lt_mul hc.1
    have : (1000000 + 1) * 1 ≤ (1000000 + 1) * c := Int.mul_le_mul_of_nonneg_left (by omega) (by omega)
    omega
  have h4 : 0 ≤ Builtin.Range.rangeSize a b c ∧ Builtin.Range.rangeSize a b c ≤ 1000001 := by
    unfold Builtin.Range.rangeSize
    rw [if_pos hc.1]
    split
    · have h3 := h (by omega) (by omega)
      omega
    · omega
  unfold Builtin.Range.small
  simp only [Builtin.Range.rangeFitsLong, Bool.and_eq_true, Bool.or_eq_true, decide_eq_true_eq, beq_iff_eq, gt_iff_lt]
  clear h h2
  generalize Builtin.Range.rangeSize a b c = n at *
  refine ⟨⟨⟨⟨⟨?_, ?_⟩, ?_, ?_⟩, ?_, ?_⟩, ?_, ?_⟩, ?_⟩
  all_goals first | omega | (right; rw [if_pos hc.1]; simp only [Bool.and_eq_true, decide_eq_true_eq]; omega)
theorem range_size' {n w : Int} {q : Nat} (hw : 0 < w) (hq : n = q * w) : Builtin.Range.rangeSize 0 n w = (q : Int) := by
  rw [rangeSize_pos (by omega) (by rw [hq]; exact Int.mul_nonneg (by omega) (by omega)), hq]
  rw [show (q : Int) * w + w - 1 = (w - 1) + q * w from by omega]
  rw [Int.add_mul_ediv_right _ _ (by omega)]
  rw [Int.ediv_eq_zero_of_lt (by omega) (by omega)]
  omega
theorem news_swap {h₀ h : Heap} {L : Addr} {p q : Addr × Obj} {T : Led} (N : News h₀ L h (p :: q :: T)) : News h₀ L h (q :: p :: T) := fun x hx => N x (by
  rcases List.mem_cons.mp hx with rfl | hx
  · exact .tail _ (.head _)
  · rcases List.mem_cons.mp hx with rfl | hx
    · exact .head _
    · exact .tail _ (.tail _ hx))
theorem range_size1 {n : Int} {q : Nat} (hq : n = q) : Builtin.Range.rangeSize 0 n 1 = (q : Int) := by
  subst hq
  have := range_size' (n := (q : Int)) (w := 1) (q := q) (by omega) (by omega)
  exact this
theorem TurnD.fin {h₀ h' : Heap} {L I d : Addr} {it o : Obj} {stored : List Str} {m₀ m' : Str → Option Value} {Dn : Obj → Prop} {T : Led} {s₁ : Shared} {tk : Nat} {Q : Flow → Shared → Prop}
    (F : Fr h₀ L h' m') (N : News h₀ L h' ((I, it) :: (d, o) :: T)) (hm : ∀ y, stored.contains y = false → m' y = m₀ y) (hD : Dn o) : TurnD h₀ L I it stored m₀ d Dn T s₁ Q .next { s₁ with heap := h', toks := tk } :=
  ⟨h', tk, m', o, rfl, F, N, hm, hD⟩
theorem map_base {stored : List Str} {u m₀ : Str → Option Value} : ∀ y, stored.contains y = false → mapD stored u m₀ y = m₀ y := fun y hy => by unfold mapD; rw [hy]; rfl
theorem map_self {stored : List Str} {m₀ : Str → Option Value} : ∀ y, stored.contains y = false → m₀ y = m₀ y := fun _ _ => rfl
theorem map_peel {stored : List Str} {a : Str} {v : Option Value} {m m₀ : Str → Option Value} (ha : stored.contains a = true) (h : ∀ y, stored.contains y = false → m y = m₀ y) :
    ∀ y, stored.contains y = false → (if y = a then v else m y) = m₀ y := fun y hy => by
  rw [if_neg (fun e => by rw [e, ha] at hy; cases hy)]
  exact h y hy
theorem map_inner {stored inner : List Str} {u m m₀ : Str → Option Value} (hi : (inner.all fun y => stored.contains y) = true) (h : ∀ y, stored.contains y = false → m y = m₀ y) :
    ∀ y, stored.contains y = false → mapD inner u m y = m₀ y := fun y hy => by
  unfold mapD
  have e : inner.contains y = false := by
    cases e : inner.contains y with
    | false => rfl
    | true =>
      exfalso
      have h2 := List.all_eq_true.mp hi y (List.contains_iff_mem.mp e)
      rw [hy] at h2
      cases h2
  rw [e]
  exact h y hy
end Mine
end
section
open PySem PySem.W PyProof.Rows PySem.Calls
set_option maxRecDepth 100000
namespace Mine
section
variable {prog : Program} {w : World} {A : Around} {E : Value → Shared → Prop} {s : Shared} {h₀ : Heap} {L D : Addr} {m : Str → Option Value} {news news' : Led}
theorem setItem_baK {b : Array UInt8} {k x : Int} {t u : Tok} {Q : Unit → Shared → Prop} (F : Fr h₀ L s.heap m) (N : News h₀ L s.heap news) (U : Upd D (baObj b) (baObj (b.setIfInBounds k.toNat x.toNat.toUInt8)) news news')
    (hz : b.size ≤ 1000000 ∧ (0 ≤ k ∧ k < (b.size : Int))) (hx : 0 ≤ x ∧ x < 256) (h : ∀ h', Fr h₀ L h' m → News h₀ L h' news' → Q () { s with heap := h' }) :
    wpAny (model prog w) A (setItem (.ref D) (.int k t) (.int x u)) Q E s := by
  obtain ⟨pre, post, rfl, rfl, a, b'⟩ := U.split
  have z := N (D, baObj b) (List.mem_append.mpr (.inr (.head _)))
  refine ba_setAt z.1 hz.2.1 hz.2.2 hz.1 hx ?_
  have hs := Heap.SameBut.update s.heap D (Obj.mapBytearray (·.setIfInBounds k.toNat x.toNat.toUInt8))
  exact h _ (F.change hs z.2.1 z.2.2) (news_set N a b' hs (Heap.get?_update_self (Obj.mapBytearray (·.setIfInBounds k.toNat x.toNat.toUInt8)) z.1 rfl))
theorem bytes_baK {b : Array UInt8} {Q : Value → Shared → Prop} (hh : A.handled = none) (F : Fr h₀ L s.heap m) (N : News h₀ L s.heap news) (hm : (D, baObj b) ∈ news) (hz : b.size ≤ 1000000)
    (h : ∀ t tk, Q (.bytes b t) { s with toks := tk }) : wpAny (model prog w) A (call (.type "bytes") [.ref D]) Q E s :=
  ba_bytes (N _ hm).1 hz hh h
end
theorem item_bK {prog : Program} {w : World} {A : Around} {E : Value → Shared → Prop} {s : Shared} {value slice : Expr} {b : Array UInt8} {t u : Tok} {i : Int} {Q : Value → Shared → Prop} (hz : b.size ≤ 1000000) (h0 : 0 ≤ i ∧ i < b.size)
    (h : Q (.int ((b.getD i.toNat 0).toNat : Int) s.toks) { s with toks := s.toks + 1 })
    (hs : subscripted slice false (.bytes b t) (.int i u) = operate [.bytes b t, .int i u] (getItem (.bytes b t) (.int i u)) := by with_unfolding_all rfl)
    (ht : ∀ r, letTemporaryGo value (.bytes b t) r = pure () := by intro _; with_unfolding_all rfl) : wpAny (model prog w) A (subscriptTail value slice (.bytes b t) (.int i u)) Q E s := by
  refine subscriptTail_builtin (typeIs_bytes _ _ _) PySem.W.FB.slot_bytes_getitem.lookup ?_ hs ht
  have e1 : b = b.toList.toArray := by simp
  have e2 : b.getD i.toNat 0 = b.toList.getD i.toNat 0 := by simp [Array.getD_eq_getD_getElem?, List.getD_eq_getElem?_getD]
  rw [e2] at h
  have hl : b.toList.length = b.size := by simp
  generalize b.toList = l at *
  subst e1
  exact getItem_bytes (by omega) h0.1 (by omega) h
theorem byte_rng (c : UInt8) : 0 ≤ (c.toNat : Int) ∧ (c.toNat : Int) < 256 := by have := c.toNat_lt; omega
noncomputable def bswIn (b : Array UInt8) (w q : Nat) (acc : Array UInt8) : Nat → Array UInt8
  | 0 => acc
  | j + 1 => (bswIn b w q acc j).setIfInBounds (q * w + w - 1 - j) (b.getD (q * w + j) 0)
noncomputable def bswOut (b : Array UInt8) (w : Nat) : Nat → Array UInt8
  | 0 => Array.replicate b.size 0
  | q + 1 => bswIn b w q (bswOut b w q) w
theorem bswIn_size (b : Array UInt8) (w q : Nat) (acc : Array UInt8) : ∀ j, (bswIn b w q acc j).size = acc.size
  | 0 => rfl
  | j + 1 => by rw [bswIn, Array.size_setIfInBounds, bswIn_size b w q acc j]
theorem bswOut_size (b : Array UInt8) (w : Nat) : ∀ q, (bswOut b w q).size = b.size
  | 0 => by rw [bswOut, Array.size_replicate]
  | q + 1 => by rw [bswOut, bswIn_size, bswOut_size b w q]
theorem bsw0 {b : Array UInt8} {w : Nat} : baObj (Array.replicate (b.size : Int).toNat 0) = baObj (bswOut b w 0) := rfl -- walkbytes
end Mine
end
section
open PySem PySem.W PyProof.Rows PySem.Calls
set_option maxRecDepth 100000
set_option exponentiation.threshold 6000
namespace Mine
noncomputable def big : Nat := 10000000
noncomputable def Small (a : Int) : Prop := a.natAbs < 2 ^ big
theorem Small.bits {a : Int} (h : Small a) : Builtin.Int.intBits a ≤ big := intBits_le h
theorem small_pow {a : Int} {k : Nat} (h : a.natAbs < 2 ^ k) (hk : k ≤ big) : Small a := Nat.lt_of_lt_of_le h (Nat.pow_le_pow_right (by decide) hk)
theorem small_int {a : Int} (h : -1000000000 < a ∧ a < 1000000000) : Small a := small_pow (k := 30) (by omega) (by unfold big; omega)
section
variable {prog : Program} {w : World} {A : Around} {E : Value → Shared → Prop} {s : Shared} {t u : Tok} {a b : Int}
theorem rshift1_K {Q : Value → Shared → Prop} (h : Q (.int (a / 2) s.toks) { s with toks := s.toks + 1 }) : wpAny (model prog w) A (binaryOp .RShift (.int a t) (.int 1 u)) Q E s := by
  refine rshift_int (by omega) ?_
  rw [show (2 : Int) ^ (1 : Int).toNat = 2 from rfl, Int.fdiv_eq_ediv_of_nonneg _ (by omega)]
  exact h
theorem rshift_K {Q : Value → Shared → Prop} (hb : 0 ≤ b) (h : Q (.int (a / 2 ^ b.toNat) s.toks) { s with toks := s.toks + 1 }) : wpAny (model prog w) A (binaryOp .RShift (.int a t) (.int b u)) Q E s := by
  refine rshift_int hb ?_
  rw [Int.fdiv_eq_ediv_of_nonneg _ (Int.pow_nonneg (by omega))]
  exact h
theorem lshift_K {Q : Value → Shared → Prop} (hs : Small a) (hb : 0 ≤ b ∧ b ≤ 10000000) (h : Q (.int (a * 2 ^ b.toNat) s.toks) { s with toks := s.toks + 1 }) : wpAny (model prog w) A (binaryOp .LShift (.int a t) (.int b u)) Q E s := by
  refine lshift_int hb.1 ?_ h
  have := hs.bits
  unfold big at this
  omega
theorem mul_K {Q : Value → Shared → Prop} (ha : Small a) (hb : Small b) (h : Q (.int (a * b) s.toks) { s with toks := s.toks + 1 }) : wpAny (model prog w) A (binaryOp .Mult (.int a t) (.int b u)) Q E s := by
  refine PyProof.Rows.mul_int h ?_
  unfold IntMulOk
  have h1 := ha.bits
  have h2 := hb.bits
  unfold big at h1 h2
  rw [show Builtin.Int.intTooBig ((Builtin.Int.intBits a : Int) + (Builtin.Int.intBits b : Int)) = false from by
    unfold Builtin.Int.intTooBig bitsLine
    simp only [decide_eq_false_iff_not]
    omega]
  simp
end
section
variable {prog : Program} {w : World} {A : Around} {E : Value → Shared → Prop} {s : Shared} {h₀ : Heap} {L l : Addr} {news : Led} {vs : List Value} {ds : List Int} {k : Nat} {i : Int} {u : Tok}
theorem len_lK {Q : Value → Shared → Prop} (N : News h₀ L s.heap news) (hm : (l, listOf vs.toArray k) ∈ news) (hz : vs.length ≤ 1000000)
    (h : ∀ t, Q (.int vs.length t) { s with toks := s.toks + 1 + 1 }) : wpAny (model prog w) A (call (.builtin "len") [.ref l]) Q E s :=
  PySem.Calls.call_len_list (PySem.IsL.isList (n := k) (N _ hm).1) (by rw [List.size_toArray]; omega) (by rw [List.size_toArray]; exact h _)
theorem truthy_lK {Q : Bool → Shared → Prop} (N : News h₀ L s.heap news) (hm : (l, listOf vs.toArray k) ∈ news) (hz : vs.length ≤ 1000000)
    (h : Q (decide (0 < vs.length)) { s with toks := s.toks + 1 + 1 }) : wpAny (model prog w) A (truthy (.ref l)) Q E s :=
  wpAny_truthy_list (PySem.IsL.isList (n := k) (N _ hm).1) (by rw [List.size_toArray]; omega) (by
    have e : (!vs.toArray.isEmpty) = decide (0 < vs.length) := by cases vs <;> simp
    rw [e]; exact h)
end
noncomputable def dnum (n : Nat) : List Int → Int
  | [] => 0
  | d :: r => d + 2 ^ n * dnum n r
theorem dnum_append (n : Nat) : ∀ (a b : List Int), dnum n (a ++ b) = dnum n a + 2 ^ (n * a.length) * dnum n b
  | [], b => by simp [dnum]
  | d :: r, b => by
    rw [List.cons_append, dnum, dnum, dnum_append n r b, List.length_cons, Nat.mul_succ, Int.pow_add, Int.mul_add]
    rw [show (2 : Int) ^ (n * r.length) * 2 ^ n * dnum n b = 2 ^ n * (2 ^ (n * r.length) * dnum n b) from by rw [Int.mul_comm (2 ^ (n * r.length)) (2 ^ n), Int.mul_assoc]]
    omega
noncomputable def seg (ds : List Int) (lo hi : Nat) : List Int := (ds.drop lo).take (hi - lo)
theorem seg_split (ds : List Int) {lo mid hi : Nat} (h1 : lo ≤ mid) (h2 : mid ≤ hi) : seg ds lo hi = seg ds lo mid ++ seg ds mid hi := by
  unfold seg
  have e : hi - lo = (mid - lo) + (hi - mid) := by omega
  rw [e, List.take_add, List.drop_drop]
  congr 3
  omega
theorem seg_len (ds : List Int) {lo hi : Nat} (h : hi ≤ ds.length) : (seg ds lo hi).length = hi - lo := by
  unfold seg
  rw [List.length_take, List.length_drop]
  omega
theorem seg_one (ds : List Int) {lo : Nat} (h : lo < ds.length) : seg ds lo (lo + 1) = [ds.getD lo 0] := by
  unfold seg
  rw [show lo + 1 - lo = 1 from by omega, List.drop_eq_getElem_cons h, List.take_succ_cons, List.take_zero]
  simp [List.getD_eq_getElem?_getD, h]
theorem dnum_small (n k : Nat) : ∀ (ds : List Int), (∀ d ∈ ds, d.natAbs < 2 ^ k) → (dnum n ds).natAbs < 2 ^ (k + (n + 1) * ds.length)
  | [], _ => by simp [dnum]; exact Nat.two_pow_pos _
  | d :: r, h => by
    have h1 := h d (.head _)
    have h2 := dnum_small n k r fun x hx => h x (.tail _ hx)
    rw [dnum, List.length_cons, Nat.mul_succ]
    have h3 : (d + 2 ^ n * dnum n r).natAbs ≤ d.natAbs + 2 ^ n * (dnum n r).natAbs := by
      refine Nat.le_trans (Int.natAbs_add_le _ _) ?_
      rw [Int.natAbs_mul, Int.natAbs_pow]
      exact Nat.le_refl _
    have h4 : 2 ^ n * (dnum n r).natAbs < 2 ^ n * 2 ^ (k + (n + 1) * r.length) := Nat.mul_lt_mul_of_pos_left h2 (Nat.two_pow_pos _)
    rw [← Nat.pow_add] at h4
    have h5 : 2 ^ k ≤ 2 ^ (n + (k + (n + 1) * r.length)) := Nat.pow_le_pow_right (by decide) (by omega)
    have h6 : 2 ^ (k + ((n + 1) * r.length + (n + 1))) = 2 * 2 ^ (n + (k + (n + 1) * r.length)) := by
      rw [← Nat.pow_succ']
      congr 1
      omega
    omega
theorem dnum_one (n : Nat) {ds : List Int} {lo : Nat} (h : lo < ds.length) : dnum n (seg ds lo (lo + 1)) = ds.getD lo 0 := by rw [seg_one ds h]; simp [dnum]
theorem dnum_join {n : Int} {ds : List Int} {lo mid hi : Nat} (hn : 0 ≤ n) (h1 : lo ≤ mid) (h2 : mid ≤ hi) (h3 : hi ≤ ds.length) {sh : Int} (hsh : sh = ((mid : Int) - lo) * n) :
    dnum n.toNat (seg ds mid hi) * 2 ^ sh.toNat + dnum n.toNat (seg ds lo mid) = dnum n.toNat (seg ds lo hi) := by
  rw [seg_split ds h1 h2, dnum_append, seg_len ds (by omega)]
  have e : sh.toNat = n.toNat * (mid - lo) := by
    have e1 : ((mid : Int) - lo) = ((mid - lo : Nat) : Int) := by omega
    have e2 : n = (n.toNat : Int) := by omega
    rw [hsh, e1, e2, ← Int.natCast_mul, Int.toNat_natCast, Nat.mul_comm, Int.toNat_natCast]
  rw [e, Int.mul_comm, Int.add_comm]
theorem seg_mem {ds : List Int} {lo hi : Nat} {d : Int} (h : d ∈ seg ds lo hi) : d ∈ ds := List.mem_of_mem_drop (List.mem_of_mem_take h)
theorem dnum_seg_small {n : Nat} {ds : List Int} {lo hi : Nat} (hn : n < 5000) (hl : ds.length < 200) (hd : ∀ d ∈ ds, d.natAbs < 2 ^ 5000) : Small (dnum n (seg ds lo hi)) := by
  refine small_pow (dnum_small n 5000 _ fun d hd' => hd d (seg_mem hd')) ?_
  have h1 : (seg ds lo hi).length ≤ 200 := by
    unfold seg
    rw [List.length_take, List.length_drop]
    omega
  have h2 : (n + 1) * (seg ds lo hi).length ≤ 5000 * 200 := Nat.mul_le_mul (by omega) h1
  unfold big
  omega
theorem shift_rng {a n : Int} (ha : 0 ≤ a ∧ a < 200) (hn : 0 < n ∧ n < 5000) : 0 ≤ a * n ∧ a * n ≤ 10000000 := by
  refine ⟨Int.mul_nonneg ha.1 (by omega), ?_⟩
  have := Int.mul_le_mul (a := a) (b := n) (c := 200) (d := 5000) (by omega) (by omega) (by omega) (by omega)
  omega
theorem allNe_lt {d D : Addr} {R : Led} (h : AllLt d R) (hd : @LE.le Nat _ d D) : ∀ p ∈ R, p.1 ≠ D := fun p hp e => by
  have := ktn_ltOf h p hp
  rw [e] at this
  exact absurd this (Nat.not_lt.mpr hd)
theorem with_ledger {h₀ h : Heap} {L : Addr} {news : Led} {G : Prop} (N : News h₀ L h news) (k : ∀ B, B = news → News h₀ L h B → G) : G := k news rfl N
theorem spec_use {prog : Program} {w : World} {K : Frag} {p : Program} {loose : List Str} {mean : ExcName → Option Value} {mg mb : Str → Option Value} {dd uu : Nat} {f : Addr} {vs : List Value} {T : Led} {Post : Value → Led → Prop}
    {dp un : Nat} {gd : Option (List Code)} {cn : Str} {cs : Scope} {a : Addr} {ccd : Value} {cl : List (Str × Addr)} {outer : List Env} {A₀ : Around} {base h₀ : Heap} {L : Addr} {m : Str → Option Value} {s : Shared} {Q E : Value → Shared → Prop}
    (S : Spec prog w K p loose mean mg mb dd uu f vs T Post) (B : Below A₀ base outer h₀) (F : Fr h₀ L s.heap m) (X : K.In h₀) (N : News h₀ L s.heap T) (Tp : Top p loose mean mg mb h₀) (hk : cs.kind = .function) (hd : dp + dd < recursionLimit) (hu : un + uu < cLine)
    (k : ∀ (r : Value) (new : Led) (h' : Heap) (tk' : Nat), Fr h₀ L h' m → News h₀ L h' (new ++ T) → (∀ q ∈ T, ∀ p ∈ new, q.1 < p.1) → Post r new → Q r { s with heap := h', toks := tk' }) :
    wpAny (model prog w) (ktrTop dp un gd cn cs L a ccd cl outer) (call (.ref f) vs) Q E s := S _ _ _ _ _ _ _ _ _ _ _ _ _ _ _ _ _ B F X N Tp hk hd hu k
theorem with_call {M : Model} {A : Around} {f : Addr} {vs : List Value} {Q E : Value → Shared → Prop} {s : Shared} (k : ∀ f', f' = f → wpAny M A (call (.ref f') vs) Q E s) : wpAny M A (call (.ref f) vs) Q E s := k f rfl
end Mine
end
section
open PySem PySem.W PyProof.Rows PySem.Calls
set_option maxRecDepth 100000
namespace Mine
noncomputable def SpecT (prog : Program) (w : World) (K : Frag) (p : Program) (loose : List Str) (mean : ExcName → Option Value) (mg mb : Str → Option Value) (dd uu : Nat) (f : Addr) (vs : List Value) (T : Led) (Post : Value → Led → Prop) : Prop :=
  ∀ (dp un : Nat) (gd : Option (List Code)) (cn : Str) (cs : Scope) (a : Addr) (ccd : Value) (cl : List (Str × Addr)) (outer : List Env) (A₀ : Around) (base h₀ : Heap) (L : Addr) (m : Str → Option Value) (s : Shared) (Q E : Value → Shared → Prop),
    Below A₀ base outer h₀ → Fr h₀ L s.heap m → K.In h₀ → News h₀ L s.heap T → Top p loose mean mg mb h₀ → cs.kind = .function → dp + dd < recursionLimit → un + uu < cLine →
    (∀ (r : Value) (T' : Led) (h' : Heap) (tk' : Nat), Fr h₀ L h' m → News h₀ L h' T' → Post r T' → Q r { s with heap := h', toks := tk' }) →
    wpAny (model prog w) (ktrTop dp un gd cn cs L a ccd cl outer) (call (.ref f) vs) Q E s
theorem news_sub {h₀ h : Heap} {L : Addr} {T T' : Led} (N : News h₀ L h T) (k : ∀ p ∈ T', p ∈ T) : News h₀ L h T' := fun p hp => N p (k p hp)
section
variable {prog : Program} {w : World} {K : Frag} {p : Program} {loose : List Str} {mean : ExcName → Option Value} {mg mb : Str → Option Value} {dd uu dd' uu' : Nat} {f : Addr} {vs : List Value} {T T₀ : Led} {Post Post' : Value → Led → Prop}
theorem SpecT.conv (S : SpecT prog w K p loose mean mg mb dd uu f vs T₀ Post) (hs : ∀ q ∈ T₀, q ∈ T) (k : ∀ r T', Post r T' → ∃ T'', (∀ q ∈ T'', q ∈ T') ∧ Post' r T'') : SpecT prog w K p loose mean mg mb dd uu f vs T Post' := by
  intro dp un gd cn cs a ccd cl outer A₀ base h₀ L m s Q E B F X N Tp hk hd hu hret
  refine S dp un gd cn cs a ccd cl outer A₀ base h₀ L m s Q E B F X (news_sub N hs) Tp hk hd hu fun r T' h' tk' F' N' hp => ?_
  obtain ⟨T'', h1, h2⟩ := k r T' hp
  exact hret r T'' h' tk' F' (news_sub N' h1) h2
theorem SpecT.news (k : (∀ h₀ L h, News h₀ L h T → False) ∨ ((∃ h₀ L h, News h₀ L h T) → SpecT prog w K p loose mean mg mb dd uu f vs T Post)) : SpecT prog w K p loose mean mg mb dd uu f vs T Post := by
  rcases k with k | k
  · intro dp un gd cn cs a ccd cl outer A₀ base h₀ L m s Q E B F X N
    exact (k _ _ _ N).elim
  · intro dp un gd cn cs a ccd cl outer A₀ base h₀ L m s Q E B F X N
    exact k ⟨_, _, _, N⟩ dp un gd cn cs a ccd cl outer A₀ base h₀ L m s Q E B F X N
theorem specT_use {dp un : Nat} {gd : Option (List Code)} {cn : Str} {cs : Scope} {a : Addr} {ccd : Value} {cl : List (Str × Addr)} {outer : List Env} {A₀ : Around} {base h₀ : Heap} {L : Addr} {m : Str → Option Value} {s : Shared} {Q E : Value → Shared → Prop} {T₁ : Led}
    (S : SpecT prog w K p loose mean mg mb dd uu f vs T Post) (B : Below A₀ base outer h₀) (F : Fr h₀ L s.heap m) (X : K.In h₀) (N : News h₀ L s.heap T₁) (Tp : Top p loose mean mg mb h₀) (hk : cs.kind = .function) (hs : ∀ q ∈ T, q ∈ T₁) (hd : dp + dd < recursionLimit) (hu : un + uu < cLine)
    (k : ∀ (r : Value) (T' : Led) (h' : Heap) (tk' : Nat), Fr h₀ L h' m → News h₀ L h' T' → Post r T' → Q r { s with heap := h', toks := tk' }) :
    wpAny (model prog w) (ktrTop dp un gd cn cs L a ccd cl outer) (call (.ref f) vs) Q E s := S _ _ _ _ _ _ _ _ _ _ _ _ _ _ _ _ _ B F X (news_sub N hs) Tp hk hd hu k
end
noncomputable def Cl (T : Led) : Prop := ∀ p ∈ T, p.2.cls ≠ .none
theorem Cl.nil : Cl [] := fun _ h => nomatch h
theorem Cl.cons {a : Addr} {o : Obj} {T : Led} (h : o.cls ≠ .none) (hT : Cl T) : Cl ((a, o) :: T) := fun p hp => by
  rcases List.mem_cons.mp hp with rfl | hp
  · exact h
  · exact hT p hp
theorem Cl.append {A B : Led} (hA : Cl A) (hB : Cl B) : Cl (A ++ B) := fun p hp => (List.mem_append.mp hp).elim (hA p) (hB p)
noncomputable def TabOk (P : Addr) (li co : Nat) (q : Str) (A : Led) : Prop :=
  A = [(P, tabObj #[])] ∨ ∃ c' oc vs t, A = [(P, tabObj #[rawInt li, rawInt co, .ref c']), (c', oc)] ∧ oc.data = .fields vs ∧ vs[1]? = some (.str q t)
theorem TabOk.apart {h₀ h : Heap} {L P P' : Addr} {li co : Nat} {q : Str} {A : Led} (N : News h₀ L h ((P, tabObj #[]) :: A)) (hA : TabOk P' li co q A) (hP : P' ≠ P) : ∀ p ∈ A, p.1 ≠ P := by
  intro p hp e
  rcases hA with rfl | ⟨c', oc, vs, t, rfl, hd, hv⟩
  · rcases List.mem_singleton.mp hp with rfl
    exact hP e
  · rcases List.mem_cons.mp hp with rfl | hp
    · exact hP e
    · rcases List.mem_singleton.mp hp with rfl
      have h1 := (N _ (.head _)).1
      have h2 := (N (c', oc) (.tail _ (.tail _ (.head _)))).1
      have e' : c' = P := e
      rw [e'] at h2
      rw [h2] at h1
      cases h1
      cases hd
      cases hv
theorem Cl.apart {h₀ h : Heap} {L P : Addr} {ps : Array Value} {R : Led} (N : News h₀ L h ((P, tabObj ps) :: R)) (hR : Cl R) : ∀ p ∈ R, p.1 ≠ P := by
  intro p hp e
  have h1 := (N _ (.head _)).1
  have h2 := (N p (.tail _ hp)).1
  rw [e] at h2
  rw [h2] at h1
  have h3 := Option.some.inj h1
  exact hR _ hp (by rw [h3])
end Mine
namespace Mine
theorem tab_exit {h₀ h' : Heap} {L P c' : Addr} {li co : Nat} {q : Str} {oc : Obj} {vs : Array Value} {t : Tok} {R T1 : Led} (N : News h₀ L h' T1) (m1 : (P, tabObj #[rawInt li, rawInt co, .ref c']) ∈ T1) (m2 : (c', oc) ∈ T1) (hR : ∀ p ∈ R, p ∈ T1)
    (hd : oc.data = .fields vs) (hv : vs[1]? = some (.str q t)) : ∃ A', News h₀ L h' (A' ++ R) ∧ TabOk P li co q A' := by
  refine ⟨[(P, tabObj #[rawInt li, rawInt co, .ref c']), (c', oc)], fun p hp => ?_, .inr ⟨c', oc, vs, t, rfl, hd, hv⟩⟩
  rcases List.mem_append.mp hp with hp | hp
  · rcases List.mem_cons.mp hp with rfl | hp
    · exact N _ m1
    · rcases List.mem_singleton.mp hp with rfl
      exact N _ m2
  · exact N _ (hR _ hp)
theorem seg_all (ds : List Int) : seg ds 0 ds.length = ds := by unfold seg; rw [List.drop_zero, Nat.sub_zero, List.take_length]
end Mine
namespace Mine
theorem tab_in {h₀ h : Heap} {L P P' : Addr} {li co li' co' : Nat} {q q' : Str} {A B R : Led} (N : News h₀ L h (A ++ (B ++ R))) (hA : TabOk P li co q A) (hB : TabOk P' li' co' q' B) (hP : P' ≠ P) (hR : Cl R) :
    (A ++ (B ++ R) = (P, tabObj #[]) :: (B ++ R) ∧ ∀ p ∈ B ++ R, p.1 ≠ P) ∨ ∃ c0 oc0 vs0 t0, A ++ (B ++ R) = (P, tabObj #[rawInt li, rawInt co, .ref c0]) :: (c0, oc0) :: (B ++ R) ∧ oc0.data = .fields vs0 ∧ vs0[1]? = some (.str q t0) := by
  rcases hA with rfl | ⟨c', oc, vs, t, rfl, hd, hv⟩
  · refine .inl ⟨rfl, fun p hp => ?_⟩
    rcases List.mem_append.mp hp with hp | hp
    · exact TabOk.apart (news_sub N fun q hq => by
        rcases List.mem_cons.mp hq with rfl | hq
        · exact .head _
        · exact List.mem_append_right _ (List.mem_append_left _ hq)) hB hP p hp
    · exact Cl.apart (news_sub N fun q hq => by
        rcases List.mem_cons.mp hq with rfl | hq
        · exact .head _
        · exact List.mem_append_right _ (List.mem_append_right _ hq)) hR p hp
  · exact .inr ⟨c', oc, vs, t, rfl, hd, hv⟩
noncomputable def Tabs (P P' : Addr) (Tb : Led) : Prop := ∃ A B, Tb = A ++ B ∧ TabOk P 88 4 (Str.ofString "_digits2int.<locals>.inner") A ∧ TabOk P' 73 4 (Str.ofString "_int2digits.<locals>.inner") B
section
variable {prog : Program} {w : World} {K : Frag} {p : Program} {loose : List Str} {mean : ExcName → Option Value} {mg mb : Str → Option Value} {dd uu dd' uu' : Nat} {f : Addr} {vs : List Value} {R Tb : Led} {Post Post' : Value → Led → Prop}
theorem SpecT.tabA {P P' : Addr} (hT : Tabs P P' Tb) (hC : Cl R) (hP : P' ≠ P) {Good : Value → Prop}
    (S : ∀ T R₀, (∀ q ∈ R, q ∈ R₀) → ((T = (P, tabObj #[]) :: R₀ ∧ ∀ p ∈ R₀, p.1 ≠ P) ∨ ∃ c0 oc0 vs0 t0, T = (P, tabObj #[rawInt 88, rawInt 4, .ref c0]) :: (c0, oc0) :: R₀ ∧ oc0.data = .fields vs0 ∧ vs0[1]? = some (.str (Str.ofString "_digits2int.<locals>.inner") t0)) →
      SpecT prog w K p loose mean mg mb dd uu f vs T (fun v T' => Good v ∧ ∃ A', T' = A' ++ R₀ ∧ TabOk P 88 4 (Str.ofString "_digits2int.<locals>.inner") A')) :
    SpecT prog w K p loose mean mg mb dd uu f vs (R ++ Tb) (fun v T' => Good v ∧ ∃ Tb', T' = R ++ Tb' ∧ Tabs P P' Tb') := by
  obtain ⟨A, B, rfl, hA, hB⟩ := hT
  refine SpecT.news (.inr fun ⟨h₀, L, h, N⟩ => ?_)
  refine (S (A ++ (B ++ R)) (B ++ R) (fun q hq => List.mem_append_right _ hq) (tab_in (news_sub N ?_) hA hB hP hC)).conv ?_ ?_
  · intro q hq
    simp only [List.mem_append] at hq ⊢
    rcases hq with hq | hq | hq <;> simp [hq]
  · intro q hq
    simp only [List.mem_append] at hq ⊢
    rcases hq with hq | hq | hq <;> simp [hq]
  · rintro r T' ⟨hg, A', rfl, hA'⟩
    refine ⟨R ++ (A' ++ B), ?_, hg, _, rfl, A', B, rfl, hA', hB⟩
    intro q hq
    simp only [List.mem_append] at hq ⊢
    rcases hq with hq | hq | hq <;> simp [hq]
theorem SpecT.post (S : SpecT prog w K p loose mean mg mb dd uu f vs R Post) (k : ∀ v T, Post v T → Post' v T) : SpecT prog w K p loose mean mg mb dd uu f vs R Post' :=
  S.conv (fun _ h => h) fun r T' h => ⟨T', fun _ h => h, k r T' h⟩
theorem SpecT.room (S : SpecT prog w K p loose mean mg mb dd uu f vs R Post) (h1 : dd ≤ dd') (h2 : uu ≤ uu') : SpecT prog w K p loose mean mg mb dd' uu' f vs R Post := by
  intro dp un gd cn cs a ccd cl outer A₀ base h₀ L m s Q E B F X N Tp hk hd hu hret
  exact S dp un gd cn cs a ccd cl outer A₀ base h₀ L m s Q E B F X N Tp hk (by omega) (by omega) hret
end
end Mine
end
section
open PySem PySem.W PyProof.Rows PySem.Calls
set_option maxRecDepth 100000
set_option exponentiation.threshold 6000
namespace Mine
noncomputable def digs (n : Nat) : Nat → Int → List Int
  | 0, _ => []
  | k + 1, x => x % 2 ^ n :: digs n k (x / 2 ^ n)
theorem digs_len (n : Nat) : ∀ (k : Nat) (x : Int), (digs n k x).length = k
  | 0, _ => rfl
  | k + 1, x => by rw [digs, List.length_cons, digs_len n k]
theorem emod_emod_pow {x : Int} {n m : Nat} (h : n ≤ m) : (x % 2 ^ m) % 2 ^ n = x % 2 ^ n := Int.emod_emod_of_dvd x ⟨2 ^ (m - n), by rw [← Int.pow_add]; congr 1; omega⟩
theorem div_pow_mod {x : Int} {n m : Nat} : (x % 2 ^ (n + m)) / 2 ^ n = (x / 2 ^ n) % 2 ^ m := by
  have h : (2 : Int) ^ (n + m) = 2 ^ n * 2 ^ m := Int.pow_add ..
  have hp : (0 : Int) < 2 ^ n := Int.pow_pos (by decide)
  rw [h]
  generalize hP : (2 : Int) ^ n = P at *
  generalize (2 : Int) ^ m = Q at *
  rw [Int.emod_def, Int.emod_def, ← Int.ediv_ediv_of_nonneg (Int.le_of_lt hp), show x - P * Q * (x / P / Q) = x + P * (-(Q * (x / P / Q))) from by rw [Int.mul_neg, Int.mul_assoc]; omega, Int.add_mul_ediv_left _ _ (Int.ne_of_gt hp)]
  omega
theorem digs_append (n : Nat) : ∀ (a b : Nat) (x : Int), digs n (a + b) x = digs n a (x % 2 ^ (n * a)) ++ digs n b (x / 2 ^ (n * a))
  | 0, b, x => by
    rw [Nat.zero_add, Nat.mul_zero, Int.pow_zero, Int.ediv_one]
    rfl
  | a + 1, b, x => by
    have e : a + 1 + b = (a + b) + 1 := by omega
    rw [e, digs, digs, digs_append n a b, List.cons_append]
    have h1 : (x % 2 ^ (n * (a + 1))) % 2 ^ n = x % 2 ^ n := emod_emod_pow (by rw [Nat.mul_succ]; omega)
    have h2 : (x % 2 ^ (n * (a + 1))) / 2 ^ n = (x / 2 ^ n) % 2 ^ (n * a) := by
      rw [show n * (a + 1) = n + n * a from by rw [Nat.mul_succ, Nat.add_comm]]
      exact div_pow_mod
    have h3 : x / 2 ^ n / 2 ^ (n * a) = x / 2 ^ (n * (a + 1)) := by
      rw [Int.ediv_ediv_of_nonneg (Int.pow_nonneg (by decide)), ← Int.pow_add]
      congr 2
      rw [Nat.mul_succ]; omega
    rw [h1, h2, h3]
theorem digs_one {n : Nat} {x : Int} (h0 : 0 ≤ x) (h1 : x < 2 ^ n) : digs n 1 x = [x] := by
  rw [digs, digs, Int.emod_eq_of_lt h0 h1]
theorem digs_rng {n : Nat} : ∀ (k : Nat) (x : Int), ∀ d ∈ digs n k x, 0 ≤ d ∧ d < 2 ^ n
  | 0, _, _, h => nomatch h
  | k + 1, x, d, h => by
    have hp : (0 : Int) < 2 ^ n := Int.pow_pos (by decide)
    rw [digs] at h
    rcases List.mem_cons.mp h with rfl | h
    · exact ⟨Int.emod_nonneg _ (Int.ne_of_gt hp), Int.emod_lt_of_pos _ hp⟩
    · exact digs_rng k _ d h
theorem and_high (x s : Nat) : x &&& (x / 2 ^ s * 2 ^ s) = x / 2 ^ s * 2 ^ s := by
  apply Nat.eq_of_testBit_eq
  intro i
  rw [Nat.testBit_and, ← Nat.shiftLeft_eq, ← Nat.shiftRight_eq_div_pow, Nat.testBit_shiftLeft, Nat.testBit_shiftRight]
  by_cases h : s ≤ i
  · have e : s + (i - s) = i := by omega
    rw [e]
    cases x.testBit i <;> simp
  · simp [h]
theorem xor_low {x : Int} {s : Nat} (h0 : 0 ≤ x) : Builtin.bitXor x (x / 2 ^ s * 2 ^ s) = x % 2 ^ s := by
  obtain ⟨a, rfl⟩ := Int.eq_ofNat_of_zero_le h0
  have e : ((a : Int) / 2 ^ s * 2 ^ s) = ((a / 2 ^ s * 2 ^ s : Nat) : Int) := by
    rw [Int.natCast_mul, Int.natCast_ediv, Int.natCast_pow]; rfl
  have hand : Builtin.bitAnd (a : Int) ((a : Int) / 2 ^ s * 2 ^ s) = (a : Int) / 2 ^ s * 2 ^ s := by
    rw [e]
    have h1 : decide (0 ≤ (a : Int)) = true := by simp
    have h2 : decide (0 ≤ ((a / 2 ^ s * 2 ^ s : Nat) : Int)) = true := decide_eq_true (Int.natCast_nonneg _)
    unfold Builtin.bitAnd
    rw [h1, h2]
    show (((a : Int).toNat &&& ((a / 2 ^ s * 2 ^ s : Nat) : Int).toNat : Nat) : Int) = _
    rw [Int.toNat_natCast, Int.toNat_natCast, and_high]
  rw [bitXor_and, hand]
  have := Int.mul_ediv_add_emod (a : Int) (2 ^ s)
  rw [Int.mul_comm] at this
  omega
theorem ints_rep0 (a : Int) (t : Tok) : ∀ k, IntsAre (List.replicate k (.int a t)) (List.replicate k a)
  | 0 => .nil
  | k + 1 => .cons a t (ints_rep0 a t k)
section
variable {prog : Program} {w : World} {A : Around} {E : Value → Shared → Prop} {s : Shared} {h₀ : Heap} {L D : Addr} {m : Str → Option Value} {news news' : Led} {n : Nat} {k : Int} {u : Tok} {v : Value} {vs : List Value}
theorem set_lK {Q : Unit → Shared → Prop} (F : Fr h₀ L s.heap m) (N : News h₀ L s.heap news) (U : Upd D (listOf vs.toArray n) (listOf (vs.set k.toNat v).toArray n) news news') (hk : 0 ≤ k ∧ k < vs.length ∧ vs.length < 1000000)
    (h : ∀ h', Fr h₀ L h' m → News h₀ L h' news' → Q () { s with heap := h' }) : wpAny (model prog w) A (setItem (.ref D) (.int k u) v) Q E s := by
  obtain ⟨pre, post, rfl, rfl, a, b⟩ := U.split
  have z := N (D, listOf vs.toArray n) (List.mem_append.mpr (.inr (.head _)))
  have hs : vs.toArray.size = vs.length := List.size_toArray ..
  refine ki_setAt z.1 hk.1 (by omega) (by omega) (h _ (F.change (Heap.SameBut.update ..) z.2.1 z.2.2) (ki_turn _ N a b ?_ ?_))
  · show vs.toArray.setIfInBounds k.toNat v = (vs.set k.toNat v).toArray
    simp
  · simp
theorem rep_K {l : Addr} {a : Int} {x : Int} {u t : Tok} {j : Nat} {Q : Value → Shared → Prop} (Fm : Fr h₀ L s.heap m) (N : News h₀ L s.heap news) (hl : (l, listOf #[.int a t] j) ∈ news) (hx : 0 ≤ x ∧ x < 1000000)
    (h : ∀ D h' vs0, Fr h₀ L h' m → News h₀ L h' ((D, listOf vs0.toArray 0) :: news) → (∀ p ∈ news, p.1 < D) → IntsAre vs0 (List.replicate x.toNat a) → vs0.length = x.toNat → Q (.ref D) { s with heap := h' }) : wpAny (model prog w) A (binaryOp .Mult (.ref l) (.int x u)) Q E s := by
  refine KM.mul (vs := [.int a t]) (ns := [a]) Fm N (PySem.IsL.isList (n := j) (N _ hl).1) (IntsAre.cons a t IntsAre.nil) (by omega) (by omega) (by simp only [List.length_cons, List.length_nil]; omega) fun D h' F' N' hl' _ _ _ _ _ _ => ?_
  rw [List.flatten_replicate_singleton] at N'
  exact h D h' _ F' N' hl' (ints_rep0 a t _) List.length_replicate
end
noncomputable def figs (n : Nat) (a : Int) : Nat := (Builtin.Int.intBits a + n - 1) / n
theorem figs_big {n : Nat} {a : Int} (hn : 0 < n) (h0 : 0 ≤ a) : a < 2 ^ (n * figs n a) := by
  have h1 : a.natAbs < 2 ^ Builtin.Int.intBits a := PySem.intBits_le_iff.mp (Nat.le_refl _)
  have h2 : Builtin.Int.intBits a ≤ n * figs n a := by
    unfold figs
    have := Nat.mod_add_div (Builtin.Int.intBits a + n - 1) n
    have := Nat.mod_lt (Builtin.Int.intBits a + n - 1) hn
    omega
  have h3 : a.natAbs < 2 ^ (n * figs n a) := Nat.lt_of_lt_of_le h1 (Nat.pow_le_pow_right (by decide) h2)
  have h4 : ((a.natAbs : Nat) : Int) < ((2 ^ (n * figs n a) : Nat) : Int) := Int.ofNat_lt.mpr h3
  rw [Int.natCast_pow] at h4
  have h5 : ((2 : Nat) : Int) = 2 := rfl
  rw [h5] at h4
  omega
end Mine
namespace Mine
theorem sh_nat {n : Int} {lo mid : Nat} (hn : 0 ≤ n) (h1 : lo ≤ mid) : (((mid : Int) - lo) * n).toNat = n.toNat * (mid - lo) := by
  have e1 : ((mid : Int) - lo) = ((mid - lo : Nat) : Int) := by omega
  have e2 : n = (n.toNat : Int) := by omega
  rw [e1, e2, ← Int.natCast_mul, Int.toNat_natCast, Nat.mul_comm, Int.toNat_natCast]
theorem lo_rng {x : Int} {k : Nat} : 0 ≤ x % 2 ^ k ∧ x % 2 ^ k < 2 ^ k :=
  ⟨Int.emod_nonneg _ (Int.ne_of_gt (Int.pow_pos (by decide))), Int.emod_lt_of_pos _ (Int.pow_pos (by decide))⟩
theorem hi_rng {x : Int} {n lo mid hi : Nat} (h1 : lo ≤ mid) (h2 : mid ≤ hi) (h : 0 ≤ x ∧ x < 2 ^ (n * (hi - lo))) : 0 ≤ x / 2 ^ (n * (mid - lo)) ∧ x / 2 ^ (n * (mid - lo)) < 2 ^ (n * (hi - mid)) := by
  refine ⟨Int.ediv_nonneg h.1 (Int.pow_nonneg (by decide)), Int.ediv_lt_of_lt_mul (Int.pow_pos (by decide)) ?_⟩
  rw [← Int.pow_add, ← Nat.mul_add, show hi - mid + (mid - lo) = hi - lo from by omega]
  exact h.2
theorem digs_join {x : Int} {n lo mid hi : Nat} (h1 : lo ≤ mid) (h2 : mid ≤ hi) : digs n (mid - lo) (x % 2 ^ (n * (mid - lo))) ++ digs n (hi - mid) (x / 2 ^ (n * (mid - lo))) = digs n (hi - lo) x := by
  rw [← digs_append, show mid - lo + (hi - mid) = hi - lo from by omega]
theorem put_join {vl ws1 ws2 : List Value} {lo mid hi : Nat} (h1 : lo ≤ mid) (h2 : mid ≤ hi) (h3 : hi ≤ vl.length) (hw : ws1.length = mid - lo) :
    (vl.take lo ++ ws1 ++ vl.drop mid).take mid ++ ws2 ++ (vl.take lo ++ ws1 ++ vl.drop mid).drop hi = vl.take lo ++ (ws1 ++ ws2) ++ vl.drop hi := by
  have e : (vl.take lo ++ ws1).length = mid := by rw [List.length_append, List.length_take, hw]; omega
  rw [List.take_append_of_le_length (by omega), List.take_of_length_le (by omega), List.drop_append, e, List.drop_drop, List.drop_of_length_le (by omega), List.nil_append, show mid + (hi - mid) = hi from by omega]
  simp only [List.append_assoc]
theorem put_len {vl ws : List Value} {lo hi : Nat} (h1 : lo ≤ hi) (h3 : hi ≤ vl.length) (hw : ws.length = hi - lo) : (vl.take lo ++ ws ++ vl.drop hi).length = vl.length := by
  rw [List.length_append, List.length_append, List.length_take, List.length_drop, hw]; omega
theorem put_one {vl : List Value} {lo : Nat} {v : Value} (h : lo < vl.length) : vl.set lo v = vl.take lo ++ [v] ++ vl.drop (lo + 1) := by
  rw [List.set_eq_take_append_cons_drop, if_pos h, List.append_assoc]; rfl
inductive Pull (d : Addr) (o : Obj) : Led → Led → Prop
  | head {r} : (∀ p ∈ r, p.1 ≠ d) → Pull d o ((d, o) :: r) r
  | tail {p r r'} : p.1 ≠ d → Pull d o r r' → Pull d o (p :: r) (p :: r')
theorem figs_fdiv {n a : Int} (hn : 0 < n) : ((Builtin.Int.intBits a : Int) + n - 1).fdiv n = figs n.toNat a := by
  unfold figs
  rw [Int.fdiv_eq_ediv_of_nonneg _ (by omega)]
  have e : (Builtin.Int.intBits a : Int) + n - 1 = ((Builtin.Int.intBits a + n.toNat - 1 : Nat) : Int) := by omega
  have e2 : n = (n.toNat : Int) := by omega
  rw [e]
  conv => lhs; rw [e2]
  exact (Int.natCast_ediv _ _).symm
theorem figs_small {n : Nat} {a : Int} {m : Nat} (hn : 0 < n) (h : a.natAbs < 2 ^ (n * m)) : figs n a ≤ m := by
  have h1 : Builtin.Int.intBits a ≤ n * m := PySem.intBits_le_iff.mpr h
  unfold figs
  rw [← Nat.lt_succ_iff, Nat.div_lt_iff_lt_mul hn, Nat.succ_mul, Nat.mul_comm m n]
  omega
end Mine
namespace Mine
theorem with_mem {h₀ h : Heap} {L d : Addr} {vs : List Value} {news : Led} {G : Prop} (_ : News h₀ L h news) (_ : (d, listOf vs.toArray 0) ∈ news) (k : ∀ d' vs', d' = d → vs' = vs → G) : G := k d vs rfl rfl
end Mine
namespace Mine
theorem with_upd {h₀ h : Heap} {L d : Addr} {o o' : Obj} {news news' : Led} {G : Prop} (N : News h₀ L h news) (U : Upd d o o' news news') (k : ∀ B R', B = news → (∀ p ∈ R', p.1 ≠ d) → (∀ q ∈ B, q.1 ≠ d → q ∈ R') → News h₀ L h ((d, o) :: R') → G) : G := by
  obtain ⟨pre, post, e1, _, h1, h2⟩ := U.split
  refine k news (pre ++ post) rfl (fun p hp => (List.mem_append.mp hp).elim (h1 p) (h2 p)) (fun q hq hn => ?_) (news_sub N fun q hq => ?_)
  · rw [e1] at hq
    rcases List.mem_append.mp hq with hq | hq
    · exact List.mem_append_left _ hq
    · rcases List.mem_cons.mp hq with rfl | hq
      · exact absurd rfl hn
      · exact List.mem_append_right _ hq
  · rw [e1]
    rcases List.mem_cons.mp hq with rfl | hq
    · exact List.mem_append_right _ (.head _)
    · rcases List.mem_append.mp hq with hq | hq
      · exact List.mem_append_left _ hq
      · exact List.mem_append_right _ (.tail _ hq)
end Mine
namespace Mine
theorem digs_small {x n : Int} {k lo hi : Nat} (hn : 0 < n ∧ n < 5000) (hx : 0 ≤ x ∧ x < 2 ^ (n.toNat * (hi - lo))) (h5 : hi - lo < 200) : Small (x / 2 ^ k) := by
  have h0 : 0 ≤ x / 2 ^ k := Int.ediv_nonneg hx.1 (Int.pow_nonneg (by decide))
  have h1 : x / 2 ^ k ≤ x := Int.ediv_le_self _ hx.1
  refine small_pow (k := n.toNat * (hi - lo)) ?_ ?_
  · have h2 : x.natAbs < 2 ^ (n.toNat * (hi - lo)) := by
      have h3 : ((x.natAbs : Nat) : Int) < ((2 ^ (n.toNat * (hi - lo)) : Nat) : Int) := by
        rw [Int.natCast_pow, Int.natAbs_of_nonneg hx.1]
        exact hx.2
      exact Int.ofNat_lt.mp h3
    omega
  · have h3 : n.toNat * (hi - lo) ≤ 5000 * 200 := Nat.mul_le_mul (by omega) (by omega)
    unfold big
    omega
end Mine
namespace Mine
theorem allLt_neOf {d : Addr} {R : Led} (h : AllLt d R) : ∀ p ∈ R, p.1 ≠ d := fun p hp => Nat.ne_of_lt (ktn_ltOf h p hp)
theorem figs_zero {n : Nat} (hn : 0 < n) : figs n 0 = 0 := by
  unfold figs
  rw [show Builtin.Int.intBits 0 = 0 from rfl, Nat.zero_add]
  exact Nat.div_eq_of_lt (by omega)
theorem figs_pos {n : Nat} {a : Int} (hn : 0 < n) (ha : a ≠ 0) : 0 < figs n a := by
  unfold figs
  have h : 0 < Builtin.Int.intBits a := by
    unfold Builtin.Int.intBits
    rw [if_neg (by simpa using ha)]
    omega
  exact Nat.div_pos (by omega) hn
end Mine
namespace Mine
theorem allLt_le {d D : Addr} {R : Led} (h : AllLt d R) (hd : @LE.le Nat _ d D) : ∀ p ∈ R, p.1 < D := fun p hp => Nat.lt_of_lt_of_le (ktn_ltOf h p hp) hd
end Mine
namespace Mine
section
variable {prog : Program} {w : World} {K : Frag} {p : Program} {loose : List Str} {mean : ExcName → Option Value} {mg mb : Str → Option Value} {dd uu dd' uu' : Nat} {f : Addr} {vs : List Value} {R Tb : Led} {ds : List Int}
theorem SpecT.tabB {P P' : Addr} (hT : Tabs P P' Tb) (hC : Cl R) (hP : P ≠ P')
    (S : ∀ T R₀, (∀ q ∈ R, q ∈ R₀) → ((T = (P', tabObj #[]) :: R₀ ∧ ∀ p ∈ R₀, p.1 ≠ P') ∨ ∃ c0 oc0 vs0 t0, T = (P', tabObj #[rawInt 73, rawInt 4, .ref c0]) :: (c0, oc0) :: R₀ ∧ oc0.data = .fields vs0 ∧ vs0[1]? = some (.str (Str.ofString "_int2digits.<locals>.inner") t0)) →
      SpecT prog w K p loose mean mg mb dd uu f vs T (fun v T' => ∃ D vs A', v = .ref D ∧ IntsAre vs ds ∧ T' = A' ++ ((D, listOf vs.toArray 0) :: R₀) ∧ TabOk P' 73 4 (Str.ofString "_int2digits.<locals>.inner") A' ∧ ∀ q ∈ R₀, q.1 < D)) :
    SpecT prog w K p loose mean mg mb dd uu f vs (R ++ Tb) (fun v T' => ∃ D vs, v = .ref D ∧ IntsAre vs ds ∧ (∀ q ∈ R, q.1 < D) ∧ ∃ Tb', T' = (D, listOf vs.toArray 0) :: (R ++ Tb') ∧ Tabs P P' Tb') := by
  obtain ⟨A, B, rfl, hA, hB⟩ := hT
  refine SpecT.news (.inr fun ⟨h₀, L, h, N⟩ => ?_)
  refine (S (B ++ (A ++ R)) (A ++ R) (fun q hq => List.mem_append_right _ hq) (tab_in (news_sub N ?_) hB hA hP hC)).conv ?_ ?_
  · intro q hq
    simp only [List.mem_append] at hq ⊢
    rcases hq with hq | hq | hq <;> simp [hq]
  · intro q hq
    simp only [List.mem_append] at hq ⊢
    rcases hq with hq | hq | hq <;> simp [hq]
  · rintro r T' ⟨D, ws, B', rfl, hi, rfl, hB', hl⟩
    refine ⟨(D, listOf ws.toArray 0) :: (R ++ (A ++ B')), ?_, D, ws, rfl, hi, fun q hq => hl q (List.mem_append_right _ hq), _, rfl, A, B', rfl, hA, hB'⟩
    intro q hq
    simp only [List.mem_append, List.mem_cons] at hq ⊢
    rcases hq with hq | hq | hq | hq <;> simp [hq]
end
end Mine
namespace Mine
section
variable {prog : Program} {w : World} {A : Around} {E : Value → Shared → Prop} {s : Shared} {h₀ : Heap} {L : Addr} {m : Str → Option Value} {news : Led} {a b : Int} {t u : Tok}
theorem noPyl {b : Int} (hb : b.natAbs < 2 ^ 5000) : Builtin.divisionGoesByPylong a b = false := by
  refine PyProof.noPylong_of_log2 ?_
  by_cases h0 : b.natAbs = 0
  · rw [h0]; decide
  · have := (Nat.log2_lt h0).mpr hb
    omega
theorem divmod_K {Q : Value → Shared → Prop} (F : Fr h₀ L s.heap m) (N : News h₀ L s.heap news) (hb : 0 < b) (hs : b.natAbs < 2 ^ 5000)
    (h : ∀ D h' t1 t2 tk, Fr h₀ L h' m → News h₀ L h' ((D, tupObj [.int (a / b) t1, .int (a % b) t2]) :: news) → (∀ p ∈ news, p.1 < D) → Q (.ref D) { s with heap := h', toks := tk }) :
    wpAny (model prog w) A (call (.builtin "divmod") [.int a t, .int b u]) Q E s := by
  refine divmod_N F N (by omega) (fun h' F' N' => ?_) (.inl (noPyl hs))
  rw [Int.fdiv_eq_ediv_of_nonneg _ (by omega), Int.fmod_eq_emod_of_nonneg _ (by omega)] at N'
  exact h _ h' _ _ _ F' N' fun p hp => Heap.lt_size (N p hp).1
end
end Mine
end
section
open PySem PySem.W PyProof.Rows PySem.Calls
set_option maxRecDepth 100000
set_option exponentiation.threshold 6000
namespace Mine
theorem offI_of {I : Addr} {it : Obj} : ∀ {l : Led}, (∀ p ∈ l, p.1 ≠ I) → OffI I it l
  | [], _ => trivial
  | p :: r, h => ⟨.inl (h p (.head _)), offI_of fun q hq => h q (.tail _ hq)⟩
section
variable {prog : Program} {w : World} {A : Around} {E : Value → Shared → Prop} {s : Shared} {env : Env} {h₀ : Heap} {x : Str} {body : List Stmt} {Q : Flow → Shared → Prop}
theorem TurnJ.imp {L I : Addr} {it : Obj} {J J' : (Str → Option Value) → Led → Prop} {s₁ s₂ : Shared} {f : Flow} (h : TurnJ h₀ L I it J s₁ Q f s₂) (k : ∀ m led, (∀ p ∈ led, p.1 ≠ I) → J m led → J' m led) : TurnJ h₀ L I it J' s₁ Q f s₂ := by
  cases f with
  | ret v => exact h
  | brk => exact h
  | next => obtain ⟨h', tk, m', n', e, F, N, o, j⟩ := h; exact ⟨h', tk, m', n', e, F, N, o, k _ _ o j⟩
  | cont => obtain ⟨h', tk, m', n', e, F, N, o, j⟩ := h; exact ⟨h', tk, m', n', e, F, N, o, k _ _ o j⟩
theorem TurnJ.unr {L I : Addr} {it : Obj} {J : (Str → Option Value) → Led → Prop} {s₁ s₂ : Shared} {f : Flow} (h : TurnJ h₀ L I it J s₁ Q f s₂) : UnrPost h₀ L s₁ I it J Q f s₂ := by
  cases f <;> exact h
theorem iter_revJ {I l : Addr} {vs : List Value} {k : Nat} {m₀ : Str → Option Value} {news : Led} (J : List Value → (Str → Option Value) → Led → Prop)
    (hh : A.handled = none) (F : Fr h₀ env.locals s.heap m₀) (N : News h₀ env.locals s.heap ((I, revObj l ((vs.length : Int) - 1)) :: news)) (hI : ∀ p ∈ news, p.1 ≠ I) (hl : (l, listOf vs.toArray k) ∈ news)
    (hfix : ∀ r m led, J r m led → (l, listOf vs.toArray k) ∈ led) (hj : J vs.reverse m₀ news)
    (turn : ∀ v r m₁ news₁ h tk it, J (v :: r) m₁ news₁ → (∀ p ∈ news₁, p.1 ≠ I) → it.cls = .type "list_reverseiterator" → Fr h₀ env.locals h (fun y => if y = x then some v else m₁ y) → News h₀ env.locals h ((I, it) :: news₁) →
      wpAny (model prog w) A (execs body env) (TurnJ h₀ env.locals I it (J r) { s with heap := h, toks := tk } Q) E { s with heap := h, toks := tk })
    (done : ∀ m₁ news₁ h tk, J [] m₁ news₁ → Fr h₀ env.locals h m₁ → News h₀ env.locals h news₁ → Q .next { s with heap := h, toks := tk }) :
    wpAny (model prog w) A (pyIter (.ref I)) (fun it s₂ => LoopAtV prog w A h₀ env x body Q E it s₂) E s := by
  have key : ∀ (rest : List Value) (m : Str → Option Value) (led : Led), J rest m led → (∀ p ∈ led, p.1 ≠ I) → RevRest prog w A E h₀ env x body Q s I (l, listOf vs.toArray k) rest m led := by
    intro rest
    induction rest with
    | nil => intro m led hj _ h tk F' N'; exact done m led h tk hj F' N'
    | cons v r ih =>
      intro m led hj ho it h tk hic F' N'
      refine wpAny_mono (turn v r m led h tk it hj ho hic F' N') (fun f s₂ p => ?_) fun _ _ e => e
      exact (p.imp fun m' led' ho' hj' => ⟨hfix _ _ _ hj', ih m' led' hj' ho'⟩).unr
  exact iter_revUnr (lo := listOf vs.toArray k) hh F N (offI_of hI) hl rfl rfl (key _ _ _ hj hI)
end
theorem map_one {stored : List Str} {a : Str} {v : Value} {m m₀ : Str → Option Value} (hv : m a = some v) (h : ∀ y, stored.contains y = false → m y = m₀ y) :
    m = fun y => if y = a then some v else mapD stored m m₀ y := by
  funext y
  by_cases e : y = a
  · rw [if_pos e, e]; exact hv
  · rw [if_neg e]; exact congrFun (mapD_of h) y
noncomputable def ldiv (n : Nat) (y : Int) : List Int → List Int × Int
  | [] => ([], 0)
  | d :: r => (((ldiv n y r).2 * 2 ^ n + d) / y :: (ldiv n y r).1, ((ldiv n y r).2 * 2 ^ n + d) % y)
theorem ldiv_rem {n : Nat} {y : Int} (hy : 0 < y) : ∀ ds, 0 ≤ (ldiv n y ds).2 ∧ (ldiv n y ds).2 < y
  | [] => ⟨Int.le_refl _, hy⟩
  | _ :: _ => ⟨Int.emod_nonneg _ (Int.ne_of_gt hy), Int.emod_lt_of_pos _ hy⟩
theorem ldiv_len {n : Nat} {y : Int} : ∀ ds, (ldiv n y ds).1.length = ds.length
  | [] => rfl
  | _ :: r => by rw [ldiv, List.length_cons, List.length_cons, ldiv_len r]
theorem ldiv_rng {n : Nat} {y : Int} (hy : 0 < y) : ∀ ds, (∀ d ∈ ds, 0 ≤ d ∧ d < 2 ^ n) → ∀ q ∈ (ldiv n y ds).1, 0 ≤ q ∧ q < 2 ^ n
  | [], _, _, h => nomatch h
  | d :: r, hd, q, h => by
    rw [ldiv] at h
    have hr := ldiv_rem (n := n) hy r
    have h1 := hd d (.head _)
    rcases List.mem_cons.mp h with rfl | h
    · refine ⟨Int.ediv_nonneg ?_ (Int.le_of_lt hy), Int.ediv_lt_of_lt_mul hy ?_⟩
      · have := Int.mul_nonneg hr.1 (show (0 : Int) ≤ 2 ^ n from Int.pow_nonneg (by decide))
        omega
      · have h2 : ((ldiv n y r).2 + 1) * 2 ^ n ≤ y * 2 ^ n := Int.mul_le_mul_of_nonneg_right (by omega) (Int.pow_nonneg (by decide))
        rw [Int.add_mul, Int.one_mul, Int.mul_comm y] at h2
        omega
    · exact ldiv_rng hy r (fun x hx => hd x (.tail _ hx)) q h
theorem ldiv_val {n : Nat} {y : Int} (hy : 0 < y) : ∀ ds, dnum n (ldiv n y ds).1 = dnum n ds / y ∧ (ldiv n y ds).2 = dnum n ds % y
  | [] => ⟨(Int.zero_ediv _).symm, (Int.zero_emod _).symm⟩
  | d :: r => by
    obtain ⟨h1, h2⟩ := ldiv_val hy r
    have h3 := Int.mul_ediv_add_emod (dnum n r) y
    have e : d + 2 ^ n * dnum n r = ((dnum n r % y) * 2 ^ n + d) + y * (2 ^ n * (dnum n r / y)) := by
      conv => lhs; rw [← h3]
      rw [Int.mul_add, Int.mul_left_comm, Int.mul_comm (2 ^ n) (dnum n r % y)]
      omega
    rw [ldiv, dnum, dnum, h1, h2, e, Int.add_mul_ediv_left _ _ (Int.ne_of_gt hy), Int.add_mul_emod_self_left]
    exact ⟨rfl, rfl⟩
theorem dnum_digs {n : Nat} : ∀ (k : Nat) (x : Int), 0 ≤ x ∧ x < 2 ^ (n * k) → dnum n (digs n k x) = x
  | 0, x, h => by
    rw [Nat.mul_zero, Int.pow_zero] at h
    rw [digs, dnum]
    omega
  | k + 1, x, h => by
    have hp : (0 : Int) < 2 ^ n := Int.pow_pos (by decide)
    rw [digs, dnum, dnum_digs k (x / 2 ^ n) ⟨Int.ediv_nonneg h.1 (Int.le_of_lt hp), Int.ediv_lt_of_lt_mul hp (by rw [← Int.pow_add, show n * k + n = n * (k + 1) from by rw [Nat.mul_succ]]; exact h.2)⟩]
    have := Int.mul_ediv_add_emod x (2 ^ n)
    omega
theorem ints_rev {vs : List Value} {ds : List Int} (h : IntsAre vs ds) : IntsAre vs.reverse ds.reverse := by
  induction h with
  | nil => exact IntsAre.nil
  | cons d t _ ih => rw [List.reverse_cons, List.reverse_cons]; exact ih.append (IntsAre.cons d t IntsAre.nil)
end Mine
namespace Mine
theorem with_fr {h₀ h : Heap} {L : Addr} {m : Str → Option Value} {G : Prop} (F : Fr h₀ L h m) (k : ∀ m', m' = m → Fr h₀ L h m' → G) : G := k m rfl F
theorem with_obj {h₀ h : Heap} {L d : Addr} {news : Led} {G : Prop} (o : Obj) (_ : News h₀ L h news) (_ : (d, o) ∈ news) (k : ∀ d', d' = d → G) : G := k d rfl
end Mine
namespace Mine
theorem ints_snoc {a : List Value} {v : Value} {ds : List Int} (h : IntsAre (a ++ [v]) ds) : ∃ d t ds', v = .int d t ∧ ds = ds' ++ [d] ∧ IntsAre a ds' := by
  induction a generalizing ds with
  | nil =>
    cases h with
    | cons n t h => cases h; exact ⟨n, t, [], rfl, rfl, IntsAre.nil⟩
  | cons x a ih =>
    cases h with
    | cons n t h =>
      obtain ⟨d, t', ds', h1, h2, h3⟩ := ih h
      exact ⟨d, t', n :: ds', h1, by rw [h2]; rfl, IntsAre.cons n t h3⟩
theorem bits_lt {y : Int} (hy : 0 < y) : y < 2 ^ Builtin.Int.intBits y := by
  have h1 : y.natAbs < 2 ^ Builtin.Int.intBits y := PySem.intBits_le_iff.mp (Nat.le_refl _)
  have h4 : ((y.natAbs : Nat) : Int) < ((2 ^ Builtin.Int.intBits y : Nat) : Int) := Int.ofNat_lt.mpr h1
  rw [Int.natCast_pow] at h4
  have h5 : ((2 : Nat) : Int) = 2 := rfl
  rw [h5] at h4
  omega
theorem natAbs_lt_pow {x : Int} {k : Nat} (h0 : 0 ≤ x) (h : x < 2 ^ k) : x.natAbs < 2 ^ k := by
  have h3 : ((x.natAbs : Nat) : Int) < ((2 ^ k : Nat) : Int) := by
    rw [Int.natCast_pow, Int.natAbs_of_nonneg h0]
    exact h
  exact Int.ofNat_lt.mp h3
theorem step_bits {rv d : Int} {n : Nat} (hn : n ≤ 2000) (hr : 0 ≤ rv ∧ rv < 2 ^ n) (hd : 0 ≤ d ∧ d < 2 ^ n) : ((Builtin.Int.intBits (rv * 2 ^ n + d) : Nat) : Int) - n ≤ 4000 := by
  have h1 := Int.mul_nonneg hr.1 (show (0 : Int) ≤ 2 ^ n from Int.pow_nonneg (by decide))
  have h2 : (rv + 1) * 2 ^ n ≤ 2 ^ n * 2 ^ n := Int.mul_le_mul_of_nonneg_right (by omega) (Int.pow_nonneg (by decide))
  rw [Int.add_mul, Int.one_mul, ← Int.pow_add] at h2
  have h3 := PySem.intBits_le_iff.mpr (natAbs_lt_pow (x := rv * 2 ^ n + d) (k := n + n) (by omega) (by omega))
  omega
end Mine
namespace Mine
section
variable {prog : Program} {w : World} {A : Around} {E : Value → Shared → Prop} {s : Shared} {h₀ : Heap} {L D : Addr} {m : Str → Option Value} {news news' : Led} {n : Nat} {x : Value} {vs : List Value}
theorem append_lK {Q : Value → Shared → Prop} (F : Fr h₀ L s.heap m) (N : News h₀ L s.heap news) (U : Upd D (listOf vs.toArray n) (listOf (vs ++ [x]).toArray (n + 1)) news news') (hz : vs.length < 1000000)
    (h : ∀ h', Fr h₀ L h' m → News h₀ L h' news' → Q .none { s with heap := h' }) : wpAny (model prog w) A (call (.builtin "list.append") [.ref D, x]) Q E s := by
  have e : vs.toArray.push x = (vs ++ [x]).toArray := by simp
  refine append_K (its := vs.toArray) (n := n) F N (e ▸ U) h ?_
  rw [List.size_toArray, sizeLine_eq]
  omega
theorem reverse_lK {Q : Value → Shared → Prop} (F : Fr h₀ L s.heap m) (N : News h₀ L s.heap news) (U : Upd D (listOf vs.toArray n) (listOf vs.reverse.toArray n) news news') (hz : vs.length < 1000000)
    (h : ∀ h', Fr h₀ L h' m → News h₀ L h' news' → Q .none { s with heap := h' }) : wpAny (model prog w) A (call (.builtin "list.reverse") [.ref D]) Q E s := by
  refine kl_reverse (its := vs.toArray) F N rfl U ?_ h
  rw [sizeLine_eq]
  show vs.length ≤ _
  omega
end
end Mine
namespace Mine
theorem TurnJ.fin {h₀ h' : Heap} {L I : Addr} {it : Obj} {Jn : (Str → Option Value) → Led → Prop} {m' : Str → Option Value} {all : Led} {s₁ : Shared} {tk : Nat} {Q : Flow → Shared → Prop}
    (F : Fr h₀ L h' m') (N : News h₀ L h' all) (news' : Led) (sub : ∀ p ∈ (I, it) :: news', p ∈ all) (off : ∀ p ∈ news', p.1 ≠ I) (j : Jn m' news') : TurnJ h₀ L I it Jn s₁ Q .next { s₁ with heap := h', toks := tk } :=
  ⟨h', tk, m', news', rfl, F, fun p hp => N p (sub p hp), off, j⟩
end Mine
namespace Mine
theorem TurnJ.fin1 {h₀ h' : Heap} {L I : Addr} {it : Obj} {Jn : (Str → Option Value) → Led → Prop} {m' : Str → Option Value} {p0 : Addr × Obj} {news' : Led} {s₁ : Shared} {tk : Nat} {Q : Flow → Shared → Prop}
    (F : Fr h₀ L h' m') (N : News h₀ L h' (p0 :: (I, it) :: news')) (off : ∀ p ∈ news', p.1 ≠ I) (j : Jn m' news') : TurnJ h₀ L I it Jn s₁ Q .next { s₁ with heap := h', toks := tk } :=
  TurnJ.fin F N news' (fun _ hp => .tail _ hp) off j
theorem TurnJ.fin0 {h₀ h' : Heap} {L I : Addr} {it : Obj} {Jn : (Str → Option Value) → Led → Prop} {m' : Str → Option Value} {news' : Led} {s₁ : Shared} {tk : Nat} {Q : Flow → Shared → Prop}
    (F : Fr h₀ L h' m') (N : News h₀ L h' ((I, it) :: news')) (off : ∀ p ∈ news', p.1 ≠ I) (j : Jn m' news') : TurnJ h₀ L I it Jn s₁ Q .next { s₁ with heap := h', toks := tk } :=
  TurnJ.fin F N news' (fun _ hp => hp) off j
end Mine
namespace Mine
theorem news_hd {h₀ h : Heap} {L : Addr} {p : Addr × Obj} {T T2 : Led} (N : News h₀ L h (p :: T)) (k : ∀ q ∈ T2, q ∈ T) : News h₀ L h (p :: T2) := fun q hq => by
  rcases List.mem_cons.mp hq with rfl | hq
  · exact N _ (.head _)
  · exact N _ (.tail _ (k q hq))
end Mine
end
section
open PySem PySem.W PyProof.Rows PySem.Calls
open PyProof.Rows.LCg
set_option maxRecDepth 100000
namespace Mine
local macro_rules | `(tactic| walk_at "none") => `(tactic| fail)
noncomputable def Blk (prog : Program) (w : World) (A : Around) (h₀ : Heap) (L : Addr) (m : Str → Option Value) (env : Env) (elt : Expr) (x : Str) (scope : Scope) (cl : List (Str × Addr)) (Fin : Shared → List Value → Led → Prop) (it : Value) (s₂ : Shared) : Prop :=
  ∃ (I : Addr) (fp : List Addr) (n : Nat) (P : Nat → Value → Prop) (St : Nat → Heap → Prop) (S : Led → Prop) (news : Led),
    it = .ref I ∧ Walks prog w A I fp [I] n P St ∧ n ≤ sizeLine ∧ (∀ i h, St i h → ∃ o, h.get? I = some o) ∧
    (∀ i h h' o nw, St i h → h.get? I = some o → h'.get? I = some o → (∀ b o, h₀.get? b = some o → h'.get? b = some o) → News h₀ L h' nw → S nw → St i h') ∧
    St 0 s₂.heap ∧ (∀ b ∈ fp, b < s₂.heap.objs.size) ∧ Fr h₀ L s₂.heap m ∧ News h₀ L s₂.heap news ∧ L ≠ I ∧ h₀.get? I = none ∧ (∀ p ∈ news, p.1 ≠ I) ∧ S news ∧
    CompRest prog w A h₀ L m env elt x scope cl s₂ S P (Fin s₂) n 0 [] news
section
variable {prog : Program} {w : World} {A : Around} {E : Value → Shared → Prop} {s : Shared} {h₀ : Heap} {L : Addr} {m : Str → Option Value} {env : Env}
theorem ListComp_W {elt iter : Expr} {x : Str} {px : Pos} {scope : Scope} {cl : List (Str × Addr)} {pos : Pos} {Q : Value → Shared → Prop} (_F₀ : Fr h₀ L s.heap m)
    (hclos : closureFor scope env = pure cl) (hcell : ∀ y ∈ scope.names, y.2 ≠ .cell) (hkind : scope.kind = .function)
    (hnames : ∀ y ∈ scope.names, y.2 = .local → scope.names.lookup y.1 = some .local) (hx : scope.names.lookup x = some .local)
    (h : wpAny (model prog w) A (eval iter env) (fun xv s₁ => wpAny (model prog w) A (pyIter xv) (Blk prog w A h₀ L m env elt x scope cl (fun s₂ => FinE h₀ L m s₂ Q)) E s₁) E s)
    (hs : ∀ x, foldedSetIterable iter env x = pure x := by intro _; rfl) :
    wpAny (model prog w) A (eval (.ListComp elt [⟨.Name x px, iter, [], 0⟩] scope pos) env) Q E s := by
  rw [eval_ListComp]
  refine wpAny_comprehension_free (use := none) rfl hs hclos hkind hnames (wpAny_mono h (fun xv s₁ h₁ => wpAny_mono h₁ (fun it s₂ h₂ => ?_) fun _ _ e => e) fun _ _ e => e)
  obtain ⟨I, fp, n, P, St, S, news, rfl, W, hsz, hIo, hSt, hst, hfp, F, N, hIL, hI₀, off, hS, R⟩ := h₂
  refine block_U W hsz hIo hSt hcell hkind hx hst hfp F N hIL hI₀ off hS R ?_
  intro D C h tk m' ys news' F' N' o1 hn hC₀ hD₀ hCL hDL hCD offC fin
  refine ⟨m', hn, fun h'' hs'' => fin D h'' tk (F'.change hs'' hCL hC₀) (fun p hp => ?_) o1⟩
  refine ⟨hs''.extBut _ _ ?_ (N' p hp).1, (N' p hp).2⟩
  rcases List.mem_cons.mp hp with rfl | hp
  · exact Ne.symm hCD
  · exact offC p hp
theorem Assign_ListComp_W {elt iter : Expr} {x y : Str} {px py : Pos} {scope : Scope} {cl : List (Str × Addr)} {pos spos : Pos} {Q : Flow → Shared → Prop} (_F₀ : Fr h₀ L s.heap m) (hLe : env.locals = L)
    (hsw : swapsWith (.ListComp elt [⟨.Name x px, iter, [], 0⟩] scope pos) (some (.Name y py)) spos.line env = pure true)
    (hclos : closureFor scope env = pure cl) (hcell : ∀ z ∈ scope.names, z.2 ≠ .cell) (hkind : scope.kind = .function)
    (hnames : ∀ z ∈ scope.names, z.2 = .local → scope.names.lookup z.1 = some .local) (hx : scope.names.lookup x = some .local)
    (hy : env.kindOf y = some .local) (hp : (env.scope.kind == .class || (env.scope.kind == .module && env.locals != env.globals)) = false)
    (h : wpAny (model prog w) A (eval iter env) (fun xv s₁ => wpAny (model prog w) A (pyIter xv) (Blk prog w A h₀ L m env elt x scope cl (fun s₂ => FinA h₀ L m s₂ y Q)) E s₁) E s)
    (hs : ∀ x, foldedSetIterable iter env x = pure x := by intro _; rfl) :
    wpAny (model prog w) A (exec (.Assign [.Name y py] (.ListComp elt [⟨.Name x px, iter, [], 0⟩] scope pos) spos) env) Q E s := by
  subst hLe
  rw [exec_Assign_Name_used _ _ _ _ hsw]
  refine wpAny_bind (wpAny_standAt (wpAny_bind ?_))
  show wpAny _ A (do let _ ← comprehension (.ListComp elt [⟨.Name x px, iter, [], 0⟩] scope pos) scope env _ (newList []) false (eval iter env) (some (assign (.Name y py) env))) _ _ s
  refine wpAny_bind (wpAny_mono (wpAny_comprehension_free (use := some (assign (.Name y py) env)) (Q := fun _ s' => Q .next s') rfl hs hclos hkind hnames
    (wpAny_mono h (fun xv s₁ h₁ => wpAny_mono h₁ (fun it s₂ h₂ => ?_) fun _ _ e => e) fun _ _ e => e)) (fun _ s' hq => wpAny_pure (wpAny_pure hq)) fun _ _ e => e)
  obtain ⟨I, fp, n, P, St, S, news, rfl, W, hsz, hIo, hSt, hst, hfp, F, N, hIL, hI₀, off, hS, R⟩ := h₂
  refine block_U W hsz hIo hSt hcell hkind hx hst hfp F N hIL hI₀ off hS R ?_
  intro D C h' tk m' ys news' F' N' o1 hn hC₀ hD₀ hCL hDL hCD offC fin
  show wpAny _ A (assign (.Name y py) env (.ref D)) _ _ _
  refine wpAny_assign_Name (wpAny_storeName_local hy F'.ns (fun h₂ hn₂ hs₂ => ?_) hp)
  have hL₀ : h₀.get? env.locals = none := Heap.get?_none_of_le F'.above
  have F₂ : Fr h₀ env.locals h₂ (fun z => if z = y then some (.ref D) else m z) := ⟨hn₂, fun b o e => hs₂.extBut b o (fun q => by rw [q, hL₀] at e; cases e) (F'.keep b o e), F'.above⟩
  refine ⟨m', hn.sameBut hs₂ hCL, fun h'' hs'' => fin D h'' _ (F₂.change hs'' hCL hC₀) (fun p hp => ?_) o1⟩
  have z : h₂.get? p.1 = some p.2 := hs₂.extBut _ _ (N' p hp).2.1 (N' p hp).1
  refine ⟨hs''.extBut _ _ ?_ z, (N' p hp).2⟩
  rcases List.mem_cons.mp hp with rfl | hp
  · exact Ne.symm hCD
  · exact offC p hp
theorem blk_list {elt : Expr} {x : Str} {scope : Scope} {cl : List (Str × Addr)} {Fin : Shared → List Value → Led → Prop} {l : Addr} {vs : List Value} {k : Nat} {news : Led}
    (hh : A.handled = none) (F : Fr h₀ L s.heap m) (N : News h₀ L s.heap news) (hl : (l, listOf vs.toArray k) ∈ news) (hsz : vs.length ≤ 1000000)
    (R : ∀ g : Heap, CompRest prog w A h₀ L m env elt x scope cl { s with heap := g } (fun led => (l, listOf vs.toArray k) ∈ led) (fun i v => vs[i]? = some v) (Fin { s with heap := g }) vs.length 0 [] news) :
    wpAny (model prog w) A (pyIter (.ref l)) (Blk prog w A h₀ L m env elt x scope cl Fin) E s := by
  have hls : s.heap.IsList l vs.toArray := PySem.IsL.isList (n := k) (N _ hl).1
  have hlt : l < s.heap.objs.size := Heap.lt_size (N _ hl).1
  refine wpAny_pyIter_list hls ?_
  have W : Walks prog w A s.heap.objs.size [s.heap.objs.size, l] [s.heap.objs.size] vs.length (fun i v => vs.toArray[i]? = some v) (fun i h => h.IsListIter s.heap.objs.size l i ∧ h.IsList l vs.toArray) := Walks.list (prog := prog) (w := w) hh s.heap.objs.size l (Nat.ne_of_lt hlt) vs.toArray
  refine ⟨s.heap.objs.size, _, vs.length, _, _, fun led => (l, listOf vs.toArray k) ∈ led, news, rfl, W, by rw [sizeLine_eq]; omega, fun i h st => by obtain ⟨o, e, _⟩ := st.1; exact ⟨o, e⟩, ?_, ⟨⟨_, Heap.get?_push_size _ rfl, rfl, rfl⟩, hls.push _⟩, ?_, F.push _, fun p hp => ⟨Heap.get?_push_of_some _ (N p hp).1, (N p hp).2⟩,
    Nat.ne_of_lt F.ns.lt, next_is_new F, fun p hp => Nat.ne_of_lt (Heap.lt_size (N p hp).1), hl, ?_⟩
  · intro i h h' o nw st e e' k' N' hS
    exact ⟨by obtain ⟨o', q, r⟩ := st.1; rw [e] at q; cases q; exact ⟨o, e', r⟩, PySem.IsL.isList (n := k) (N' _ hS).1⟩
  · intro b hb
    show b < (s.heap.push _).objs.size
    rw [Heap.size_push]
    rcases List.mem_cons.mp hb with rfl | hb
    · exact Nat.lt_succ_self _
    · rw [List.mem_singleton.mp hb]; exact Nat.lt_succ_of_lt hlt
  · have := R (s.heap.push { cls := .type "list_iterator", data := .fields #[.ref l, .int 0 0] })
    simpa using this
theorem blk_tuple {elt : Expr} {x : Str} {scope : Scope} {cl : List (Str × Addr)} {Fin : Shared → List Value → Led → Prop} {l : Addr} {vs : List Value} {news : Led}
    (hh : A.handled = none) (F : Fr h₀ L s.heap m) (N : News h₀ L s.heap news) (hl : (l, tupObj vs) ∈ news) (hsz : vs.length ≤ 1000000)
    (R : ∀ g : Heap, CompRest prog w A h₀ L m env elt x scope cl { s with heap := g } (fun led => (l, tupObj vs) ∈ led) (fun i v => vs[i]? = some v) (Fin { s with heap := g }) vs.length 0 [] news) :
    wpAny (model prog w) A (pyIter (.ref l)) (Blk prog w A h₀ L m env elt x scope cl Fin) E s := by
  have hls : s.heap.IsTuple l vs.toArray := ⟨_, (N _ hl).1, rfl, _, rfl⟩
  have hlt : l < s.heap.objs.size := Heap.lt_size (N _ hl).1
  refine wpAny_pyIter_tuple hls ?_
  have W : Walks prog w A s.heap.objs.size [s.heap.objs.size, l] [s.heap.objs.size] vs.length (fun i v => vs.toArray[i]? = some v) (fun i h => h.IsTupleIter s.heap.objs.size l i ∧ h.IsTuple l vs.toArray) := Walks.tuple (prog := prog) (w := w) hh s.heap.objs.size l (Nat.ne_of_lt hlt) vs.toArray
  refine ⟨s.heap.objs.size, _, vs.length, _, _, fun led => (l, tupObj vs) ∈ led, news, rfl, W, by rw [sizeLine_eq]; omega, fun i h st => by obtain ⟨o, e, _⟩ := st.1; exact ⟨o, e⟩, ?_, ⟨⟨_, Heap.get?_push_size _ rfl, rfl, rfl⟩, ⟨_, Heap.get?_push_of_some _ (N _ hl).1, rfl, _, rfl⟩⟩, ?_, F.push _, fun p hp => ⟨Heap.get?_push_of_some _ (N p hp).1, (N p hp).2⟩,
    Nat.ne_of_lt F.ns.lt, next_is_new F, fun p hp => Nat.ne_of_lt (Heap.lt_size (N p hp).1), hl, ?_⟩
  · intro i h h' o nw st e e' k' N' hS
    exact ⟨by obtain ⟨o', q, r⟩ := st.1; rw [e] at q; cases q; exact ⟨o, e', r⟩, ⟨_, (N' _ hS).1, rfl, _, rfl⟩⟩
  · intro b hb
    show b < (s.heap.push _).objs.size
    rw [Heap.size_push]
    rcases List.mem_cons.mp hb with rfl | hb
    · exact Nat.lt_succ_self _
    · rw [List.mem_singleton.mp hb]; exact Nat.lt_succ_of_lt hlt
  · have := R (s.heap.push { cls := .type "tuple_iterator", data := .fields #[.ref l, .int 0 0] })
    simpa using this
theorem blk_range {elt : Expr} {x : Str} {scope : Scope} {cl : List (Str × Addr)} {Fin : Shared → List Value → Led → Prop} {r : Addr} {a b : Int} {t u v : Tok} {n : Nat} {news : Led}
    (hh : A.handled = none) (F : Fr h₀ L s.heap m) (N : News h₀ L s.heap news) (hr : IsRange s.heap r a b 1 t u v) (hsm : Builtin.Range.small a b 1 = true) (hn : Builtin.Range.rangeSize a b 1 = ((n : Nat) : Int)) (hsz : n ≤ 1000000)
    (R : ∀ g : Heap, CompRest prog w A h₀ L m env elt x scope cl { s with heap := g } (fun _ => True) (fun i v => ∃ t, v = .int (a + (i : Int)) t) (Fin { s with heap := g }) n 0 [] news) :
    wpAny (model prog w) A (pyIter (.ref r)) (Blk prog w A h₀ L m env elt x scope cl Fin) E s := by
  refine wpAny_pyIter_range hr hsm ?_
  refine ⟨s.heap.objs.size, _, n, _, _, fun _ => True, news, rfl, range_walks hh a n, by rw [sizeLine_eq]; omega, fun i h st => ⟨_, st⟩, range_st, by show IsRangeIter _ _ _ _ _; rw [hn]; simpa using Heap.get?_push_size _ rfl, ?_, F.push _, fun p hp => ⟨Heap.get?_push_of_some _ (N p hp).1, (N p hp).2⟩,
    Nat.ne_of_lt F.ns.lt, next_is_new F, fun p hp => Nat.ne_of_lt (Heap.lt_size (N p hp).1), trivial, R _⟩
  intro b hb
  rw [List.mem_singleton.mp hb]
  show s.heap.objs.size < (s.heap.push _).objs.size
  rw [Heap.size_push]; exact Nat.lt_succ_self _
theorem blk_bytes {elt : Expr} {x : Str} {scope : Scope} {cl : List (Str × Addr)} {Fin : Shared → List Value → Led → Prop} {b : Array UInt8} {tb : Tok} {news : Led}
    (hh : A.handled = none) (F : Fr h₀ L s.heap m) (N : News h₀ L s.heap news) (hsz : b.size ≤ 1000000)
    (R : ∀ g : Heap, CompRest prog w A h₀ L m env elt x scope cl { s with heap := g } (fun _ => True) (fun i v => ∃ c u, b[i]? = some c ∧ v = .int (c.toNat : Int) u) (Fin { s with heap := g }) b.size 0 [] news) :
    wpAny (model prog w) A (pyIter (.bytes b tb)) (Blk prog w A h₀ L m env elt x scope cl Fin) E s := by
  refine PySem.W.KBw.pyIter_bytes ?_
  refine ⟨s.heap.objs.size, _, b.size, _, _, fun _ => True, news, rfl, PySem.W.KBw.walks (prog := prog) (w := w) hh s.heap.objs.size b tb, by rw [sizeLine_eq]; omega, fun i h st => by obtain ⟨o, e, _⟩ := st; exact ⟨o, e⟩, ?_, ⟨_, Heap.get?_push_size _ rfl, rfl, rfl⟩, ?_, F.push _, fun p hp => ⟨Heap.get?_push_of_some _ (N p hp).1, (N p hp).2⟩,
    Nat.ne_of_lt F.ns.lt, next_is_new F, fun p hp => Nat.ne_of_lt (Heap.lt_size (N p hp).1), trivial, R _⟩
  · intro i h h' o nw st e e' k' N' hS
    obtain ⟨o', q, r⟩ := st; rw [e] at q; cases q; exact ⟨o, e', r⟩
  intro b hb
  rw [List.mem_singleton.mp hb]
  show s.heap.objs.size < (s.heap.push _).objs.size
  rw [Heap.size_push]; exact Nat.lt_succ_self _
theorem comp_inv {elt : Expr} {x : Str} {scope : Scope} {cl : List (Str × Addr)} {S : Led → Prop} {P : Nat → Value → Prop} {Fin : List Value → Led → Prop} {n : Nat} {news : Led} (J : List Value → Led → Prop) (j0 : J [] news)
    (turn : ∀ i v ys led I oI C oC D m₂ h tk (E' : Value → Shared → Prop), i < n → P i v → ys.length = i → J ys led → NsObj oC m₂ → m₂ x = some v → Fr h₀ L h m → News h₀ L h ((I, oI) :: (C, oC) :: (D, lst ys) :: led) → (∀ p ∈ led, p.1 ≠ I ∧ p.1 ≠ C ∧ p.1 ≠ D) → ((@Ne Nat I C) ∧ (@Ne Nat I D) ∧ (@Ne Nat C D)) →
      wpAny (model prog w) A (eval elt (compEnvC scope cl C env)) (CompEnd h₀ L m { s with heap := h, toks := tk } I oI C oC D (lst ys) S (fun y news' => J (ys ++ [y]) news')) E' { s with heap := h, toks := tk })
    (fin : ∀ ys led, ys.length = n → J ys led → Fin ys led) : CompRest prog w A h₀ L m env elt x scope cl s S P Fin n 0 [] news := by
  have key : ∀ (j i : Nat) (ys : List Value) (led : Led), i + j = n → ys.length = i → J ys led → CompRest prog w A h₀ L m env elt x scope cl s S P Fin j i ys led := by
    intro j
    induction j with
    | zero =>
      intro i ys led hi hy hj
      exact CompRest.zero (fin ys led (by omega) hj)
    | succ j ih =>
      intro i ys led hi hy hj
      refine CompRest.succ ?_
      intro v I oI C oC D m₂ h tk E' hv hC hx F N off ne
      refine wpAny_mono (turn i v ys led I oI C oC D m₂ h tk E' (by omega) hv hy hj hC hx F N off.mem ne) (fun y s₂ hq => ?_) fun _ _ e => e
      obtain ⟨h', tk', nw, e, F', N', off', hS, hj'⟩ := hq
      exact ⟨h', tk', nw, e, F', N', off', hS, ih (i + 1) _ nw (by omega) (by rw [List.length_append, hy]; rfl) hj'⟩
  exact key n 0 [] news (by omega) rfl j0
theorem ints_take {ys : List Value} {y : Value} {g : Nat → Int} {i : Nat} {t : Tok} (h : IntsAre ys ((List.range i).map g)) (e : y = .int (g i) t) : IntsAre (ys ++ [y]) ((List.range (i + 1)).map g) := by
  rw [List.range_succ, List.map_append, e]
  exact h.append (.cons _ _ .nil)
theorem comp_ints {elt : Expr} {x : Str} {scope : Scope} {cl : List (Str × Addr)} {S : Led → Prop} {P : Nat → Value → Prop} {Fin : List Value → Led → Prop} {n : Nat} {news : Led} (g : Nat → Int)
    (turn : ∀ i v ys I oI C oC D m₂ h tk (E' : Value → Shared → Prop), i < n → P i v → NsObj oC m₂ → m₂ x = some v → Fr h₀ L h m → News h₀ L h ((I, oI) :: (C, oC) :: (D, lst ys) :: news) → (∀ p ∈ news, p.1 ≠ I ∧ p.1 ≠ C ∧ p.1 ≠ D) → ((@Ne Nat I C) ∧ (@Ne Nat I D) ∧ (@Ne Nat C D)) →
      wpAny (model prog w) A (eval elt (compEnvC scope cl C env)) (CompEnd h₀ L m { s with heap := h, toks := tk } I oI C oC D (lst ys) S (fun y news' => news' = news ∧ ∃ t, y = .int (g i) t)) E' { s with heap := h, toks := tk })
    (fin : ∀ ys, IntsAre ys ((List.range n).map g) → Fin ys news) : CompRest prog w A h₀ L m env elt x scope cl s S P Fin n 0 [] news := by
  refine comp_inv (J := fun ys led => led = news ∧ IntsAre ys ((List.range ys.length).map g)) ⟨rfl, .nil⟩ ?_ ?_
  · rintro i v ys led I oI C oC D m₂ h tk E' hi hv hy ⟨rfl, hj⟩ hC hx F N off ne
    refine wpAny_mono (turn i v ys I oI C oC D m₂ h tk E' hi hv hC hx F N off ne) (fun y s₂ hq => ?_) fun _ _ e => e
    obtain ⟨h', tk', nw, e, F', N', off', hS, rfl, t, hy'⟩ := hq
    refine ⟨h', tk', nw, e, F', N', off', hS, rfl, ?_⟩
    rw [List.length_append, show [y].length = 1 from rfl, hy]
    exact ints_take (hy ▸ hj) hy'
  · rintro ys led hy ⟨rfl, hj⟩
    exact fin ys (hy ▸ hj)
end
theorem CompEnd.fin {h₀ : Heap} {L I C D : Addr} {m : Str → Option Value} {s₁ : Shared} {oI oC oD : Obj} {S : Led → Prop} {rest : Value → Led → Prop} {y : Value} {h' : Heap} {tk : Nat} {all : Led}
    (F : Fr h₀ L h' m) (N : News h₀ L h' all) (news' : Led) (sub : ∀ p ∈ (I, oI) :: (C, oC) :: (D, oD) :: news', p ∈ all) (off : ∀ p ∈ news', p.1 ≠ I ∧ p.1 ≠ C ∧ p.1 ≠ D) (hS : S news') (r : rest y news') :
    CompEnd h₀ L m s₁ I oI C oC D oD S rest y { s₁ with heap := h', toks := tk } := CompEnd.intro F N news' sub (Off3.of off) hS r
theorem CompEnd.fin0 {h₀ : Heap} {L I C D : Addr} {m : Str → Option Value} {s₁ : Shared} {oI oC oD : Obj} {S : Led → Prop} {a b : Int} {t : Tok} {news' : Led} {h' : Heap} {tk : Nat}
    (F : Fr h₀ L h' m) (N : News h₀ L h' ((I, oI) :: (C, oC) :: (D, oD) :: news')) (off : ∀ p ∈ news', p.1 ≠ I ∧ p.1 ≠ C ∧ p.1 ≠ D) (hS : S news') (e : a = b) :
    CompEnd h₀ L m s₁ I oI C oC D oD S (fun y nw => nw = news' ∧ ∃ t, y = .int b t) (.int a t) { s₁ with heap := h', toks := tk } :=
  CompEnd.fin F N news' (fun _ h => h) off hS ⟨rfl, t, by rw [e]⟩
theorem off1_of {D : Addr} : ∀ {l : Led}, Off1 D l → ∀ p ∈ l, p.1 ≠ D
  | [], _ => fun _ h => nomatch h
  | _ :: _, h => fun p hp => by
    rcases List.mem_cons.mp hp with rfl | hp
    · exact h.1
    · exact off1_of h.2 p hp
end Mine
end
section
open PySem PySem.W PyProof.Rows PySem.Calls
open PyProof.Rows.LCg
set_option maxRecDepth 100000
namespace Mine
abbrev ZSt (z TI TO i1 i2 l1 l2 : Addr) (vs₁ vs₂ : List Value) (i : Nat) (h : Heap) : Prop :=
  IsZip h z TI TO .none ∧ IsPair h TI (.ref i1) (.ref i2) ∧ (∃ a b, IsPair h TO a b) ∧ h.IsListIter i1 l1 i ∧ h.IsListIter i2 l2 i ∧ h.IsList l1 vs₁.toArray ∧ h.IsList l2 vs₂.toArray
section
variable {prog : Program} {w : World} {A : Around} {E : Value → Shared → Prop} {s : Shared} {h₀ : Heap} {L : Addr} {m : Str → Option Value} {news : Led}
theorem zip_core {l1 l2 : Addr} {vs₁ vs₂ : List Value} {k1 k2 : Nat} {Q' : Value → Shared → Prop} (F : Fr h₀ L s.heap m) (N : News h₀ L s.heap news)
    (h1 : (l1, listOf vs₁.toArray k1) ∈ news) (h2 : (l2, listOf vs₂.toArray k2) ∈ news)
    (h : ∀ z TI TO i1 i2 h', ZipApart z TI TO i1 i2 l1 l2 → ZSt z TI TO i1 i2 l1 l2 vs₁ vs₂ 0 h' → Fr h₀ L h' m → News h₀ L h' news → (∀ b ∈ [z, TI, TO, i1, i2], h₀.get? b = none ∧ b ≠ L ∧ b < h'.objs.size ∧ ∀ q ∈ news, q.1 ≠ b) → l1 < h'.objs.size → l2 < h'.objs.size →
      Q' (.ref z) { s with heap := h' }) :
    wpAny (model prog w) A (call (.type "zip") [.ref l1, .ref l2]) (fun xv s₁ => wpAny (model prog w) A (pyIter xv) Q' E s₁) E s := by
  have hls1 : s.heap.IsList l1 vs₁.toArray := PySem.IsL.isList (n := k1) (N _ h1).1
  have hls2 : s.heap.IsList l2 vs₂.toArray := PySem.IsL.isList (n := k2) (N _ h2).1
  have a1 : l1 < s.heap.objs.size := Heap.lt_size (N _ h1).1
  have a2 : l2 < s.heap.objs.size := Heap.lt_size (N _ h2).1
  have hLs : L < s.heap.objs.size := F.ns.lt
  have hab : h₀.objs.size ≤ L := F.above
  refine call_zip_2 hls1 hls2 fun h' hz hTI hTO hit1 hit2 hsz hk => ?_
  refine wpAny_pyIter_zip hz ?_
  refine h _ _ _ _ _ h' (zipApart_new a1 a2) ⟨hz, hTI, ⟨_, _, hTO⟩, hit1, hit2, hls1.at fun o e => hk _ o e, hls2.at fun o e => hk _ o e⟩ ⟨F.ns.keeps hk, fun b o e => hk b o (F.keep b o e), F.above⟩ (fun p hp => ⟨hk _ _ (N p hp).1, (N p hp).2⟩) ?_ ?_ ?_
  · have key : ∀ k, k < 5 → h₀.get? (s.heap.objs.size + k) = none ∧ s.heap.objs.size + k ≠ L ∧ s.heap.objs.size + k < h'.objs.size ∧ ∀ q ∈ news, q.1 ≠ s.heap.objs.size + k := fun k hk5 =>
      ⟨Heap.get?_none_of_le (Nat.le_trans hab (Nat.le_trans (Nat.le_of_lt hLs) (Nat.le_add_right _ k))), Nat.ne_of_gt (Nat.lt_of_lt_of_le hLs (Nat.le_add_right _ k)), by rw [hsz]; exact Nat.add_lt_add_left hk5 _,
        fun q hq => Nat.ne_of_lt (Nat.lt_of_lt_of_le (Heap.lt_size (N q hq).1) (Nat.le_add_right _ k))⟩
    intro b hb
    simp only [List.mem_cons, List.not_mem_nil, or_false] at hb
    rcases hb with rfl | rfl | rfl | rfl | rfl
    · exact key 4 (by decide)
    · exact key 2 (by decide)
    · exact key 3 (by decide)
    · exact key 0 (by decide)
    · exact key 1 (by decide)
  · rw [hsz]; exact Nat.lt_of_lt_of_le a1 (Nat.le_add_right _ 5)
  · rw [hsz]; exact Nat.lt_of_lt_of_le a2 (Nat.le_add_right _ 5)
noncomputable def BlkZ (prog : Program) (w : World) (A : Around) (E : Value → Shared → Prop) (Q : Value → Shared → Prop) (env : Env) (elt iter : Expr) (a b : Str) (pa pb tp : Pos) (kk : Nat) (scope : Scope) (cl : List (Str × Addr)) (pos : Pos) (it : Value) (s₂ : Shared) : Prop :=
  wpAny (model prog w) A (newList []) (fun acc s₃ => wpAny (model prog w) A (newFunctionEnv scope env.globals cl [] env.qual none .none (some env)) (fun cenv s₄ =>
      codeAny (model prog w) A (.compStart (.ListComp elt [⟨.Tuple [.Name a pa, .Name b pb] kk tp, iter, [], 0⟩] scope pos) 0 it acc { cenv with scope := relabel scope env }) (compPost (model prog w) A E none Q acc cenv.locals) s₄) E s₃) E s₂
theorem ListComp_Z {env : Env} {elt iter : Expr} {a b : Str} {pa pb tp : Pos} {kk : Nat} {scope : Scope} {cl : List (Str × Addr)} {pos : Pos} {Q : Value → Shared → Prop}
    (hclos : closureFor scope env = pure cl) (hkind : scope.kind = .function)
    (hnames : ∀ y ∈ scope.names, y.2 = .local → scope.names.lookup y.1 = some .local)
    (h : wpAny (model prog w) A (eval iter env) (fun xv s₁ => wpAny (model prog w) A (pyIter xv) (BlkZ prog w A E Q env elt iter a b pa pb tp kk scope cl pos) E s₁) E s)
    (hs : ∀ x, foldedSetIterable iter env x = pure x := by intro _; rfl) :
    wpAny (model prog w) A (eval (.ListComp elt [⟨.Tuple [.Name a pa, .Name b pb] kk tp, iter, [], 0⟩] scope pos) env) Q E s := by
  rw [eval_ListComp]
  exact wpAny_comprehension_free (use := none) rfl hs hclos hkind hnames h
theorem zip_blk {env : Env} {elt iter : Expr} {a b : Str} {pa pb tp : Pos} {kk : Nat} {scope : Scope} {cl : List (Str × Addr)} {pos : Pos} {Q : Value → Shared → Prop} {l1 l2 : Addr} {vs₁ vs₂ : List Value} {k1 k2 n : Nat} (g : Nat → Int)
    (hh : A.handled = none) (hcell : ∀ y ∈ scope.names, y.2 ≠ .cell) (hkind : scope.kind = .function) (hxa : scope.names.lookup a = some .local) (hxb : scope.names.lookup b = some .local) (hab : ¬ a = b)
    (F : Fr h₀ L s.heap m) (N : News h₀ L s.heap news) (h1 : (l1, listOf vs₁.toArray k1) ∈ news) (h2 : (l2, listOf vs₂.toArray k2) ∈ news) (hn1 : vs₁.length = n) (hn2 : vs₂.length = n) (hsz : n ≤ 1000000)
    (turn : ∀ i v0 v1 C oC D oD m₂ h tk (E' : Value → Shared → Prop), vs₁[i]? = some v0 → vs₂[i]? = some v1 → NsObj oC m₂ → m₂ a = some v0 → m₂ b = some v1 → Fr h₀ L h m → News h₀ L h ((C, oC) :: (D, oD) :: news) →
      wpAny (model prog w) A (eval elt (compEnvC scope cl C env)) (fun y s₂ => ∃ tk' t, s₂ = { s with heap := h, toks := tk' } ∧ y = .int (g i) t) E' { s with heap := h, toks := tk })
    (fin : ∀ D h tk ys, IntsAre ys ((List.range n).map g) → Fr h₀ L h m → News h₀ L h ((D, lst ys) :: news) → (∀ p ∈ news, p.1 ≠ D) → Q (.ref D) { s with heap := h, toks := tk }) :
    wpAny (model prog w) A (call (.type "zip") [.ref l1, .ref l2]) (fun xv s₁ => wpAny (model prog w) A (pyIter xv) (BlkZ prog w A E Q env elt iter a b pa pb tp kk scope cl pos) E s₁) E s := by
  refine zip_core F N h1 h2 fun z TI TO i1 i2 H D hst F₁ N₁ fresh hl1 hl2 => ?_
  clear F N
  unfold BlkZ
  have W := WalksT.zip2 (prog := prog) (w := w) hh z TI TO i1 i2 l1 l2 D vs₁.toArray vs₂.toArray
  rw [show min vs₁.toArray.size vs₂.toArray.size = n from by simp [hn1, hn2]] at W
  refine wpAny_newObj_type (wpAny_newFunctionEnv hcell (by intro y hy; simp at hy) (fun h₁ hns₁ hsb₁ => ?_) hkind)
  dsimp only at hns₁ hsb₁ ⊢
  generalize hH2 : H.push { cls := .type "list", dict := none, data := .seq ([] : List Value).toArray } = H2 at hns₁ hsb₁ ⊢
  have hC : H2.objs.size = H.objs.size + 1 := by rw [← hH2, Heap.size_push]
  have hDC : H.objs.size ≠ H2.objs.size := by rw [hC]; exact Nat.ne_of_lt (Nat.lt_succ_self _)
  have below : ∀ b, b < H.objs.size → b ≠ H2.objs.size ∧ b ≠ H.objs.size := fun b hb => ⟨by rw [hC]; exact Nat.ne_of_lt (Nat.lt_succ_of_lt hb), Nat.ne_of_lt hb⟩
  have hfp : ∀ b ∈ [z, TI, TO, i1, i2, l1, l2], b < H.objs.size := fun b hb => by
    simp only [List.mem_cons, List.not_mem_nil, or_false] at hb
    rcases hb with rfl | rfl | rfl | rfl | rfl | rfl | rfl
    · exact (fresh _ (by simp)).2.2.1
    · exact (fresh _ (by simp)).2.2.1
    · exact (fresh _ (by simp)).2.2.1
    · exact (fresh _ (by simp)).2.2.1
    · exact (fresh _ (by simp)).2.2.1
    · exact hl1
    · exact hl2
  have hwr : ∀ b ∈ [z, TO, i1, i2], b ∈ [z, TI, TO, i1, i2] := fun b hb => by
    simp only [List.mem_cons, List.not_mem_nil, or_false] at hb ⊢
    rcases hb with rfl | rfl | rfl | rfl <;> simp
  have hDf : H.objs.size ∉ [z, TI, TO, i1, i2, l1, l2] := fun hm => Nat.lt_irrefl _ (hfp _ hm)
  have hCf : H2.objs.size ∉ [z, TI, TO, i1, i2, l1, l2] := fun hm => by have := hfp _ hm; rw [hC] at this; exact Nat.lt_irrefl _ (Nat.lt_of_succ_lt this)
  have old : ∀ b o, H.get? b = some o → h₁.get? b = some o := fun b o e => hsb₁.extBut b o (below b (Heap.lt_size e)).1 (Heap.get?_push_of_some _ (hH2 ▸ Heap.get?_push_of_some _ e))
  have hacc : h₁.get? H.objs.size = some (lst []) := hsb₁.extBut _ _ hDC (Heap.get?_push_of_some _ (hH2 ▸ Heap.get?_push_size _ rfl))
  have hst₁ : ZSt z TI TO i1 i2 l1 l2 vs₁ vs₂ 0 h₁ := W.frame 0 _ _ hst fun b _ o e => old b o e
  have fresh₀ : ∀ a, H.objs.size ≤ a → h₀.get? a = none := fun a ha => by
    cases e : h₀.get? a with
    | none => rfl
    | some o' => exact absurd (Heap.lt_size (F₁.keep a o' e)) (Nat.not_lt.mpr ha)
  have hD₀ : h₀.get? H.objs.size = none := fresh₀ _ (Nat.le_refl _)
  have hC₀ : h₀.get? H2.objs.size = none := fresh₀ _ (by rw [hC]; exact Nat.le_succ _)
  have hLlt : L < H.objs.size := F₁.ns.lt
  have hDL : H.objs.size ≠ L := Ne.symm (below L hLlt).2
  have hCL : H2.objs.size ≠ L := Ne.symm (below L hLlt).1
  have hnw : ∀ p ∈ news, p.1 ∉ [z, TO, i1, i2] ∧ p.1 ≠ H2.objs.size ∧ p.1 ≠ H.objs.size := fun p hp =>
    ⟨fun hm => (fresh _ (hwr _ hm)).2.2.2 p hp rfl, (below _ (Heap.lt_size (N₁ p hp).1)).1, (below _ (Heap.lt_size (N₁ p hp).1)).2⟩
  have hLw : L ∉ [z, TO, i1, i2] := fun hm => (fresh _ (hwr _ hm)).2.1 rfl
  have old₀ : ∀ b o, h₀.get? b = some o → b ∉ [z, TO, i1, i2] := fun b o e hb => by rw [(fresh _ (hwr _ hb)).1] at e; cases e
  have hDw : H.objs.size ∉ [z, TO, i1, i2] := fun hm => hDf (W.sub _ hm)
  have hCw : H2.objs.size ∉ [z, TO, i1, i2] := fun hm => hCf (W.sub _ hm)
  have loop : ∀ s₃ : Shared, s₃ = { s with heap := h₁, toks := s.toks + ([] : List (Str × Value)).length } →
      codeAny (model prog w) A (.compLoop (.ListComp elt [⟨.Tuple [.Name a pa, .Name b pb] kk tp, iter, [], 0⟩] scope pos) 0 (.ref z) (.ref H.objs.size) (compEnvC scope cl H2.objs.size env))
        (compPost (model prog w) A E none Q (.ref H.objs.size) H2.objs.size) s₃ := by
    rintro s₃ rfl
    refine kcp_loop
      (fun k s' => ∃ h' tk i ys m', s' = { s with heap := h', toks := tk } ∧ i ≤ n ∧ k = n + 1 - i ∧ IntsAre ys ((List.range i).map g) ∧ ZSt z TI TO i1 i2 l1 l2 vs₁ vs₂ i h' ∧ Fr h₀ L h' m ∧ h'.Ns H2.objs.size m' ∧
        News h₀ L h' ((H.objs.size, lst ys) :: news)) ?_ (n + 1)
      ⟨h₁, _, 0, [], _, rfl, Nat.zero_le _, rfl, .nil, hst₁, F₁.keeps old, hns₁, fun p hp => ?_⟩
    · rintro k s' ⟨h', tk, i, ys, m', rfl, hi, rfl, hys, hst', F', hn', N'⟩
      by_cases hlt : i < n
      · refine W.item i _ _ _ hlt hst' fun T vals h₂ tk₂ hP hT2 hTup hMid hk₂ => ?_
        have hTlt : h'.objs.size ≤ T := hT2
        obtain ⟨v0, v1, hv0, hv1, rfl⟩ := hP
        have hTw := W.apart _ _ _ hMid
        refine W.go _ _ _ i T _ _ _ hMid fun h₃ hst₃ hk₃ => ?_
        have hTup3 : h₃.IsTuple T #[v0, v1] := hTup.at fun o e => hk₃ T o hTw e
        have up₃ : ∀ c o, c ∉ [z, TO, i1, i2] → h'.get? c = some o → h₃.get? c = some o := fun c o hc e => hk₃ c o hc (hk₂ c o hc e)
        refine kcp_assign (env := compEnvC scope cl H2.objs.size env) hh hTup3 (lookup_relabel_local hxa) (lookup_relabel_local hxb) (by simp [compEnvC, relabel, hkind]) (hn'.at' fun o e => up₃ _ o hCw e) fun h₄ tk₄ hn₄ hs₄ => ?_
        have up : ∀ c o, c ∉ [z, TO, i1, i2] → c ≠ H2.objs.size → h'.get? c = some o → h₄.get? c = some o := fun c o h1 h2 e => hs₄ c o h2 (up₃ c o h1 e)
        have hst₄ : ZSt z TI TO i1 i2 l1 l2 vs₁ vs₂ (i + 1) h₄ := W.frame _ _ _ hst₃ fun c hc o e => hs₄ c o (fun q => hCf (by have q' : c = H2.objs.size := q; rw [← q']; exact hc)) e
        obtain ⟨oC, heC, hoC⟩ := ns_obj hn₄
        have F₄ : Fr h₀ L h₄ m := ⟨F'.ns.at' fun o e => up _ o hLw (Ne.symm hCL) e, fun c o e => up c o (old₀ c o e) (fun q => by rw [q, hC₀] at e; cases e) (F'.keep c o e), F'.above⟩
        have N₅ : News h₀ L h₄ ((H.objs.size, lst ys) :: news) := fun q hq => by
          have z := N' q hq
          refine ⟨up _ _ ?_ ?_ z.1, z.2⟩
          · rcases List.mem_cons.mp hq with rfl | hq
            · exact hDw
            · exact (hnw q hq).1
          · rcases List.mem_cons.mp hq with rfl | hq
            · exact hDC
            · exact (hnw q hq).2.1
        have N₄ : News h₀ L h₄ ((H2.objs.size, oC) :: (H.objs.size, lst ys) :: news) := fun q hq => by
          rcases List.mem_cons.mp hq with rfl | hq
          · exact ⟨heC, hCL, hC₀⟩
          · exact N₅ q hq
        refine wpAny_mono (turn i v0 v1 H2.objs.size oC H.objs.size (lst ys) _ h₄ _ _ (by simpa using hv0) (by simpa using hv1) hoC (by simp [hab]) (by simp) F₄ N₄) (fun y s₅ h₅ => ?_) fun _ _ e => e
        obtain ⟨tk₅, t, rfl, rfl⟩ := h₅
        have hyl : ys.length = i := by rw [hys.length]; simp
        refine append_at (hsz := by show ys.toArray.size ≤ sizeLine; rw [List.size_toArray, hyl, sizeLine_eq]; omega) (N₅ _ (.head _)).1 fun h₆ hs₆ hD₆ => ?_
        refine ⟨n + 1 - (i + 1), by omega, h₆, tk₅, i + 1, ys ++ [.int (g i) t], _, rfl, hlt, rfl, ints_take hys rfl, W.frame _ _ _ hst₄ fun c hc o e => hs₆.extBut c o (fun q => hDf (q ▸ hc)) e, F₄.change hs₆ hDL hD₀, hn₄.sameBut hs₆ (Ne.symm hDC), fun q hq => ?_⟩
        rcases List.mem_cons.mp hq with rfl | hq
        · exact ⟨hD₆.trans (congrArg some (lst_snoc ys _)), hDL, hD₀⟩
        · exact ⟨hs₆.extBut _ _ (hnw q hq).2.2 (N₅ q (.tail _ hq)).1, (N₅ q (.tail _ hq)).2⟩
      · obtain rfl : i = n := Nat.le_antisymm hi (Nat.not_lt.mp hlt)
        refine W.done _ _ _ hst' fun h₂ tk₂ hk₂ => ?_
        have F₂ : Fr h₀ L h₂ m := ⟨F'.ns.at' fun o e => hk₂ _ o hLw e, fun c o e => hk₂ c o (old₀ c o e) (F'.keep c o e), F'.above⟩
        refine ⟨m', hn'.at' fun o e => hk₂ _ o hCw e, fun h'' hs'' => fin _ h'' tk₂ ys hys (F₂.change hs'' hCL hC₀) (fun p hp => ?_) fun p hp => (hnw p hp).2.2⟩
        refine ⟨hs''.extBut _ _ ?_ (hk₂ _ _ ?_ (N' p hp).1), (N' p hp).2⟩
        · rcases List.mem_cons.mp hp with rfl | hp
          · exact hDC
          · exact (hnw p hp).2.1
        · rcases List.mem_cons.mp hp with rfl | hp
          · exact hDw
          · exact (hnw p hp).1
    · rcases List.mem_cons.mp hp with rfl | hp
      · exact ⟨hacc, hDL, hD₀⟩
      · exact ⟨old _ _ (N₁ p hp).1, (N₁ p hp).2⟩
  exact codeAny_compStart_list (loop _ rfl) (wpAny_pyIter_zip hst₁.1 (loop _ rfl))
end
end Mine
end
section
open PySem PySem.W PyProof.Rows PySem.Calls
set_option maxRecDepth 100000
namespace Mine
abbrev half : UInt64 := 4602678819172646912
noncomputable def fint (x : UInt64) : Int := Flt.toInt Float64.truncOf x
noncomputable def rnd (x : UInt64) : Int := fint (Float64.add x 4602678819172646912)
theorem fin_nan {x : UInt64} (h : Float64.isFinite x = true) : Float64.isNaN x = false := by
  unfold Float64.isFinite at h; unfold Float64.isNaN
  cases hd : Float64.decode x <;> simp_all
theorem fin_inf {x : UInt64} (h : Float64.isFinite x = true) : Float64.isInf x = false := by
  unfold Float64.isFinite at h; unfold Float64.isInf
  cases hd : Float64.decode x <;> simp_all
section
variable {prog : Program} {w : World} {A : Around} {E : Value → Shared → Prop} {s : Shared} {h₀ : Heap} {L l : Addr} {m : Str → Option Value} {news : Led} {t u : Tok}
theorem intF_K {x : UInt64} {Q : Value → Shared → Prop} (hh : A.handled = none) (hf : Float64.isFinite x = true) (h : Q (.int (fint x) s.toks) { s with toks := s.toks + 1 }) :
    wpAny (model prog w) A (call (.type "int") [.float x t]) Q E s :=
  PySem.Flt.call_int_float3 hh (fun e => absurd e (by rw [fin_nan hf]; decide)) (fun e => absurd e (by rw [fin_inf hf]; decide)) (fun _ => h)
theorem divif_K {n : Int} {a : UInt64} {Q : Value → Shared → Prop} (hn : -1000000000 < n ∧ n < 1000000000) (ha : Float64.isZero a = false) (h : Q (.float (Float64.div (Float64.ofInt n) a) s.toks) { s with toks := s.toks + 1 }) :
    wpAny (model prog w) A (binaryOp .Div (.int n t) (.float a u)) Q E s :=
  AutoFloatOps.truediv_if_2 (Float64.ofInt_fits (Nat.lt_of_lt_of_le (m := 2 ^ 30) (by omega) (Nat.pow_le_pow_right (by decide) (by decide)))) (by rw [ha]; decide) h
theorem mulfi_K {n : Int} {a : UInt64} {Q : Value → Shared → Prop} (hn : -1000000000 < n ∧ n < 1000000000) (h : Q (.float (Float64.mul a (Float64.ofInt n)) s.toks) { s with toks := s.toks + 1 }) :
    wpAny (model prog w) A (binaryOp .Mult (.float a t) (.int n u)) Q E s :=
  mul_fi_fits (Nat.lt_of_lt_of_le (m := 2 ^ 30) (by omega) (Nat.pow_le_pow_right (by decide) (by decide))) h
theorem item_lK {value slice : Expr} {vs : List Value} {k : Nat} {i : Int} {v : Value} {Q : Value → Shared → Prop} (N : News h₀ L s.heap news) (hl : (l, listOf vs.toArray k) ∈ news) (hi : 0 ≤ i ∧ i < 1000000) (hv : vs[i.toNat]? = some v) (h : Q v s)
    (hs : subscripted slice false (.ref l) (.int i u) = operate [.ref l, .int i u] (getItem (.ref l) (.int i u)) := by with_unfolding_all rfl) :
    wpAny (model prog w) A (subscriptTail value slice (.ref l) (.int i u)) Q E s := by
  have hls : s.heap.IsList l vs.toArray := PySem.IsL.isList (n := k) (N _ hl).1
  exact tail_any hls.typeIs slot_list_getitem.lookup (wpAny_getItem_list hls hi.1 (by omega) (by simpa using hv) h) hs
theorem pick_from {vs : List Value} {a : Nat} (h : a ≤ vs.length) : (slicePick vs.toArray (some (a : Int)) none none).toList = vs.drop a := by
  rw [slicePick_from _ _ (by simpa using h)]
theorem slice_fromK {value slice : Expr} {vs : List Value} {k a : Nat} {Q : Value → Shared → Prop} (F : Fr h₀ L s.heap m) (N : News h₀ L s.heap news) (hl : (l, listOf vs.toArray k) ∈ news) (ha : a ≤ vs.length) (hz : vs.length ≤ 1000000)
    (h : ∀ D h', Fr h₀ L h' m → News h₀ L h' ((D, listOf (vs.drop a).toArray 0) :: news) → (∀ p ∈ news, p.1 < D) → Q (.ref D) { s with heap := h' })
    (hs : subscripted slice false (.ref l) (.ref s.heap.objs.size) = operate [.ref s.heap.objs.size, .ref l] (getItem (.ref l) (.ref s.heap.objs.size))) (ht : ∀ r, letTemporaryGo value (.ref l) r = pure ()) :
    wpAny (model prog w) A (subscriptTail value slice (.ref l) (.ref s.heap.objs.size)) Q E { s with heap := s.heap.push { cls := .type "slice", data := .fields #[.int (a : Int) t, .none, .none] } } :=
  kmk_slice_lit F N (PySem.IsL.isList (n := k) (N _ hl).1) (IsPart.int _ _) IsPart.none (pick_from ha) h hs ht (by rw [List.size_toArray, sizeLine_eq]; omega)
end
end Mine
end
section
open PySem PySem.W PyProof.Rows PySem.Calls
set_option maxRecDepth 100000
set_option exponentiation.threshold 6000
namespace Mine
theorem pow_le {a b : Nat} (h : a ≤ b) : (2 : Int) ^ a ≤ 2 ^ b := by
  have h1 := Nat.pow_le_pow_right (n := 2) (by decide) h
  have h2 : ((2 ^ a : Nat) : Int) ≤ ((2 ^ b : Nat) : Int) := Int.ofNat_le.mpr h1
  rwa [Int.natCast_pow, Int.natCast_pow] at h2
theorem pow_pos2 {a : Nat} : (0 : Int) < 2 ^ a := Int.pow_pos (by decide)
theorem pow1_pos {a : Nat} (h : 1 ≤ a) : (0 : Int) < 2 ^ a - 1 := by
  have := pow_le h
  omega
theorem pow1_abs {a k : Nat} (h : a ≤ k) : ((2 : Int) ^ a - 1).natAbs < 2 ^ k := by
  have h1 := pow_le h
  have h2 := pow_pos2 (a := a)
  have h3 : ((2 ^ k : Nat) : Int) = 2 ^ k := by rw [Int.natCast_pow]; rfl
  omega
theorem abs_lt {x : Int} {k : Nat} (h : 0 ≤ x ∧ x < 2 ^ k) : x.natAbs < 2 ^ k := natAbs_lt_pow h.1 h.2
theorem bits_pow1 {a : Nat} (h : 1 ≤ a) : Builtin.Int.intBits (2 ^ a - 1) = a := by
  refine Nat.le_antisymm (PySem.intBits_le_iff.mpr (pow1_abs (Nat.le_refl _))) ?_
  refine Nat.le_of_not_lt fun hlt => ?_
  have h1 := PySem.intBits_le_iff.mp (Nat.le_sub_one_of_lt hlt)
  have h2 := pow_le (show a - 1 ≤ a - 1 from Nat.le_refl _)
  have h3 : (2 : Int) ^ a = 2 * 2 ^ (a - 1) := by
    conv => lhs; rw [show a = (a - 1) + 1 from by omega]
    rw [Int.pow_succ]; omega
  have h4 : ((2 ^ (a - 1) : Nat) : Int) = 2 ^ (a - 1) := by rw [Int.natCast_pow]; rfl
  have h5 := pow_pos2 (a := a - 1)
  omega
theorem digs_zero (n : Nat) : ∀ j, digs n j 0 = List.replicate j 0
  | 0 => rfl
  | j + 1 => by rw [digs, Int.zero_ediv, digs_zero n j, Int.zero_emod, List.replicate_succ]
theorem digs_pad {n k j : Nat} {a : Int} (h : 0 ≤ a ∧ a < 2 ^ (n * k)) : digs n k a ++ List.replicate j 0 = digs n (k + j) a := by
  rw [digs_append, Int.emod_eq_of_lt h.1 h.2, Int.ediv_eq_zero_of_lt h.1 h.2, digs_zero]
theorem digs_figs {n j : Nat} {a : Int} (hn : 0 < n) (h0 : 0 ≤ a) (h : a < 2 ^ (n * j)) : figs n a ≤ j ∧ digs n (figs n a) a ++ List.replicate (j - figs n a) 0 = digs n j a := by
  have h1 : figs n a ≤ j := figs_small hn (natAbs_lt_pow h0 h)
  refine ⟨h1, ?_⟩
  rw [digs_pad ⟨h0, figs_big hn h0⟩, Nat.add_sub_cancel' h1]
theorem rem_pow1 {x : Int} {a : Nat} (h : 1 ≤ a) : 0 ≤ x % (2 ^ a - 1) ∧ x % (2 ^ a - 1) < 2 ^ a := by
  have h1 := pow1_pos h
  have h2 := Int.emod_nonneg x (Int.ne_of_gt h1)
  have h3 := Int.emod_lt_of_pos x h1
  omega
theorem len_figs {n : Nat} {a : Int} : (digs n (figs n a) a).length = figs n a := digs_len _ _ _
end Mine
namespace Mine
section
variable {prog : Program} {w : World} {A : Around} {E : Value → Shared → Prop} {s : Shared} {h₀ : Heap} {L l b : Addr} {m : Str → Option Value} {news : Led} {vs ws : List Value} {k j : Nat}
theorem cat_K {Q : Value → Shared → Prop} (F : Fr h₀ L s.heap m) (N : News h₀ L s.heap news) (hl : (l, listOf vs.toArray k) ∈ news) (hb : (b, listOf ws.toArray j) ∈ news) (hz : vs.length + ws.length < 1000000)
    (h : ∀ D h', Fr h₀ L h' m → News h₀ L h' ((D, listOf (vs ++ ws).toArray 0) :: news) → (∀ p ∈ news, p.1 < D) → Q (.ref D) { s with heap := h' }) : wpAny (model prog w) A (binaryOp .Add (.ref l) (.ref b)) Q E s :=
  add_lists (hsz := by rw [sizeLine_eq]; omega) F N (PySem.IsL.isList (n := k) (N _ hl).1) (PySem.IsL.isList (n := j) (N _ hb).1) fun h' F' N' => h _ h' F' N' fun p hp => Heap.lt_size (N p hp).1
end
end Mine
end
section
open PySem PySem.W PyProof.Rows PySem.Calls
set_option maxRecDepth 100000
namespace Mine
noncomputable def TurnZ (h₀ : Heap) (L : Addr) (Z news₁ : Led) (Jn : (Str → Option Value) → Led → Prop) (s₁ : Shared) (Q : Flow → Shared → Prop) (f : Flow) (s₂ : Shared) : Prop :=
  match f with
  | .ret v => Q (.ret v) s₂
  | .brk => Q .next s₂
  | _ => ∃ h' tk m' news', s₂ = { s₁ with heap := h', toks := tk } ∧ Fr h₀ L h' m' ∧ News h₀ L h' (news' ++ Z) ∧ news'.map (·.1) = news₁.map (·.1) ∧ Jn m' news'
theorem TurnZ.fin {h₀ h' : Heap} {L : Addr} {Z news₁ : Led} {Jn : (Str → Option Value) → Led → Prop} {m' : Str → Option Value} {all : Led} {s₁ : Shared} {tk : Nat} {Q : Flow → Shared → Prop}
    (F : Fr h₀ L h' m') (N : News h₀ L h' all) (news' : Led) (sub : ∀ p ∈ news' ++ Z, p ∈ all) (ha : news'.map (·.1) = news₁.map (·.1)) (j : Jn m' news') : TurnZ h₀ L Z news₁ Jn s₁ Q .next { s₁ with heap := h', toks := tk } :=
  ⟨h', tk, m', news', rfl, F, fun p hp => N p (sub p hp), ha, j⟩
section
variable {prog : Program} {w : World} {A : Around} {E : Value → Shared → Prop} {s : Shared} {env : Env} {h₀ : Heap} {xi xc : Str} {body : List Stmt} {Q : Flow → Shared → Prop}
theorem zip_forJ {l1 l2 : Addr} {vs₁ vs₂ : List Value} {k1 k2 n : Nat} {m : Str → Option Value} {news : Led} (J : Nat → (Str → Option Value) → Led → Prop)
    (hh : A.handled = none) (F : Fr h₀ env.locals s.heap m) (N : News h₀ env.locals s.heap news) (h1 : (l1, listOf vs₁.toArray k1) ∈ news) (h2 : (l2, listOf vs₂.toArray k2) ∈ news) (hn1 : vs₁.length = n ∨ n < vs₁.length ∧ vs₂.length = n) (hn2 : vs₂.length = n ∨ n < vs₂.length ∧ vs₁.length = n) (hj : J 0 m news)
    (hfix : ∀ i m led, J i m led → (l1, listOf vs₁.toArray k1) ∈ led ∧ (l2, listOf vs₂.toArray k2) ∈ led)
    (turn : ∀ i v0 v1 m₁ news₁ h tk (Z : Led), vs₁[i]? = some v0 → vs₂[i]? = some v1 → J i m₁ news₁ → (∀ p ∈ Z, ∀ q ∈ news₁, p.1 ≠ q.1) → Fr h₀ env.locals h (fun y => if y = xc then some v1 else if y = xi then some v0 else m₁ y) → News h₀ env.locals h (news₁ ++ Z) →
      wpAny (model prog w) A (execs body env) (TurnZ h₀ env.locals Z news₁ (J (i + 1)) { s with heap := h, toks := tk } Q) E { s with heap := h, toks := tk })
    (done : ∀ m₁ news₁ h tk, J n m₁ news₁ → Fr h₀ env.locals h m₁ → News h₀ env.locals h news₁ → Q .next { s with heap := h, toks := tk }) :
    wpAny (model prog w) A (call (.type "zip") [.ref l1, .ref l2]) (fun xv s₁ => wpAny (model prog w) A (pyIter xv) (fun it s₂ => PairAt3 prog w A h₀ env xi xc body Q E it s₂) E s₁) E s := by
  refine zip_core F N h1 h2 fun z TI TO i1 i2 H D hst F₁ N₁ fresh hl1 hl2 => ?_
  have W := WalksT.zip2 (prog := prog) (w := w) hh z TI TO i1 i2 l1 l2 D vs₁.toArray vs₂.toArray
  rw [show min vs₁.toArray.size vs₂.toArray.size = n from by rw [List.size_toArray, List.size_toArray]; omega] at W
  have ne12 : l1 ∉ [z, TI, TO, i1, i2] ∧ l2 ∉ [z, TI, TO, i1, i2] := ⟨fun hm => (fresh _ hm).2.2.2 _ h1 rfl, fun hm => (fresh _ hm).2.2.2 _ h2 rfl⟩
  have hwr : ∀ b ∈ [z, TO, i1, i2], b ∈ [z, TI, TO, i1, i2] := fun b hb => by
    simp only [List.mem_cons, List.not_mem_nil, or_false] at hb ⊢
    rcases hb with rfl | rfl | rfl | rfl <;> simp
  have split : ∀ b ∈ [z, TI, TO, i1, i2, l1, l2], b ∈ [z, TI, TO, i1, i2] ∨ b = l1 ∨ b = l2 := fun b hb => by
    simp only [List.mem_cons, List.not_mem_nil, or_false] at hb ⊢
    rcases hb with h | h | h | h | h | h | h <;> simp [h]
  refine ⟨z, _, _, n, _, _, _, fun i v0 v1 => vs₁[i]? = some v0 ∧ vs₂[i]? = some v1, m, news, J, rfl, W, ?_, ?_, ?_, ?_, hst, F₁, N₁, hj, ?_, ?_⟩
  · rintro i vals ⟨x, y, hx, hy, rfl⟩
    exact ⟨x, y, rfl, by simpa using hx, by simpa using hy⟩
  · intro hm
    rcases split _ hm with hm | e | e
    · exact (fresh _ hm).2.1 rfl
    · exact (N₁ _ h1).2.1 e.symm
    · exact (N₁ _ h2).2.1 e.symm
  · exact fun b hb => (fresh b (hwr b hb)).1
  · exact fun p hp hm => (fresh _ (hwr _ hm)).2.2.2 p hp rfl
  · rintro i v0 v1 m₁ news₁ s₁ own ⟨hh', tk', rfl⟩ hin ⟨hv0, hv1⟩ hJ hmap hown F₂ N₂
    have inNews : ∀ q ∈ news₁, ∃ q' ∈ news, q'.1 = q.1 := fun q hq => by
      have : q.1 ∈ news.map (·.1) := hmap ▸ List.mem_map.mpr ⟨q, hq, rfl⟩
      obtain ⟨q', hq', e⟩ := List.mem_map.mp this
      exact ⟨q', hq', e⟩
    refine wpAny_mono (turn i v0 v1 m₁ news₁ hh' tk' (own.filter fun p => decide (p.1 ≠ l1 ∧ p.1 ≠ l2)) hv0 hv1 hJ (fun p hp q hq => ?_) F₂ (fun p hp => ?_)) (fun f s₂ hf => ?_) fun _ _ e => e
    · rw [List.mem_filter] at hp
      obtain ⟨q', hq', e⟩ := inNews q hq
      rcases split _ (hown p hp.1) with hm | e1 | e1
      · exact fun e2 => (fresh _ hm).2.2.2 q' hq' (e.trans e2.symm)
      · exact absurd e1 (of_decide_eq_true hp.2).1
      · exact absurd e1 (of_decide_eq_true hp.2).2
    · rcases List.mem_append.mp hp with hp | hp
      · exact N₂ p (List.mem_append_right _ hp)
      · exact N₂ p (List.mem_append_left _ (List.mem_filter.mp hp).1)
    · have fin : (∃ h' tk m' news', s₂ = { ({ s with heap := hh', toks := tk' } : Shared) with heap := h', toks := tk } ∧ Fr h₀ env.locals h' m' ∧ News h₀ env.locals h' (news' ++ own.filter fun p => decide (p.1 ≠ l1 ∧ p.1 ≠ l2)) ∧ news'.map (·.1) = news₁.map (·.1) ∧ J (i + 1) m' news') →
          LoopStep2 h₀ env.locals own news₁ (J (i + 1)) { s with heap := hh', toks := tk' } .next s₂ := by
        rintro ⟨h', tk, m', news', e, F', N', ha, hj'⟩
        refine ⟨rfl, h', tk, m', news', e, F', fun p hp => ?_, ha, hj'⟩
        rcases List.mem_append.mp hp with hp | hp
        · have key : ∀ o : Obj, (p.1, o) ∈ news₁ → (p.1, o) ∈ news' → News h₀ env.locals h' news' → h'.get? p.1 = some p.2 ∧ p.1 ≠ env.locals ∧ h₀.get? p.1 = none := fun o ho ho' Nx => by
            have h7 := (N₂ _ (List.mem_append_right _ ho)).1
            have h8 := (N₂ _ (List.mem_append_left _ hp)).1
            rw [show ({ s with heap := hh', toks := tk' } : Shared).heap = hh' from rfl] at h7 h8
            rw [h7] at h8
            have e2 : p = (p.1, o) := Prod.ext rfl (Option.some.inj h8).symm
            rw [e2]; exact Nx _ ho'
          by_cases e1 : p.1 = l1
          · exact key (listOf vs₁.toArray k1) (e1 ▸ (hfix _ _ _ hJ).1) (e1 ▸ (hfix _ _ _ hj').1) fun q hq => N' q (List.mem_append_left _ hq)
          · by_cases e2 : p.1 = l2
            · exact key (listOf vs₂.toArray k2) (e2 ▸ (hfix _ _ _ hJ).2) (e2 ▸ (hfix _ _ _ hj').2) fun q hq => N' q (List.mem_append_left _ hq)
            · exact N' p (List.mem_append_right _ (List.mem_filter.mpr ⟨hp, decide_eq_true ⟨e1, e2⟩⟩))
        · exact N' p (List.mem_append_left _ hp)
      cases f with
      | ret v => exact hf
      | brk => exact hf
      | next => exact fin hf
      | cont => exact fin hf
  · rintro h' tk m' news' F' N' _ hJ
    exact done m' news' h' tk hJ F' N'
end
end Mine
namespace Mine
section
variable {h₀ h' : Heap} {L d : Addr} {o o₁ : Obj} {p1 p2 : Addr × Obj} {R Z W : Led} {Jn : (Str → Option Value) → Led → Prop} {m' : Str → Option Value} {s₁ : Shared} {tk : Nat} {Q : Flow → Shared → Prop}
theorem TurnZ.fin2 (F : Fr h₀ L h' m') (N : News h₀ L h' (p1 :: p2 :: (d, o) :: W)) (hW : W = R ++ Z) (j : Jn m' ((d, o) :: R)) : TurnZ h₀ L Z ((d, o₁) :: R) Jn s₁ Q .next { s₁ with heap := h', toks := tk } :=
  TurnZ.fin F N ((d, o) :: R) (by rw [hW]; exact fun _ h => .tail _ (.tail _ h)) rfl j
end
end Mine
end
section
open PySem PySem.W PyProof.Rows PySem.Calls
set_option maxRecDepth 100000
namespace Mine
local macro_rules | `(tactic| walk_at "none") => `(tactic| fail)
local macro_rules | `(tactic| walk_at "none") => `(tactic| fail)
abbrev byteAt (b : Array UInt8) (i : Nat) (v : Value) : Prop := ∃ c u, b[i]? = some c ∧ v = .int (c.toNat : Int) u
section
variable {prog : Program} {w : World} {A : Around} {E : Value → Shared → Prop} {s : Shared}
theorem extend_bytes {R : Result → Shared → Prop} (hh : A.handled = none) (x : Array UInt8) (t : Tok) (S : Addr) (res : Value) (c₀ : Nat) (hS : s.heap.get? S = some { cls := .type "list", data := .seq #[] c₀ })
    (hR : ∀ h' tk acc' c', (∀ b o, b ≠ S → s.heap.get? b = some o → h'.get? b = some o) → h'.get? S = some { cls := .type "list", dict := none, data := .seq acc' c', slots := #[] } →
      ItemsOf (byteAt x) acc' x.size → R (.ok (.ret res)) { s with heap := h', toks := tk }) (hn : x.size ≤ sizeLine) :
    wpAny (model prog w) A.in1 (Builtin.List.listExtendWith (.ref S) (.bytes x t) res)
      (fun fin s' => match fin with | .done f => R (.ok f) s' | .again c' => c'.quiet = true ∧ codeAny (model prog w) A c' R s') (fun e s' => R (.error e) s') s := by
  have hSI : S ≠ s.heap.objs.size := Nat.ne_of_lt (Heap.lt_size hS)
  have hSf : S ∉ [s.heap.objs.size] := fun hm => hSI (List.mem_singleton.mp hm)
  unfold Builtin.List.listExtendWith
  refine wpAny_bind (wpAny_typeOf (T := "bytes") (typeIs_bytes s x t) ?_)
  have h1 : Builtin.List.listSameRef (.ref S) (.bytes x t) = false := rfl
  have h2 : (Value.type "bytes" == Value.type "list") = false := by decide
  have h3 : (Value.type "bytes" == Value.type "tuple") = false := by decide
  simp only [h1, h2, h3, Bool.or_false, Bool.false_eq_true, if_false]
  refine wpAny_bind (PySem.W.KBw.pyIter_bytes ?_)
  refine wpAny_bind (wpAny_holding ?_)
  unfold Builtin.List.listLengthHint
  refine wpAny_bind (wpAny_specialOf (T := "bytes") (v := .bytes x t) (typeIs_bytes _ x t) PySem.W.FB.slot_bytes_len.lookup ?_)
  wp_delta
  refine wpAny_bind (wpAny_isInstance (T := "bytes") (v := .bytes x t) (b := true) (typeIs_bytes _ x t) (by rw [isSubtype_type]; kernel_rfl) ?_)
  show wpAny _ _ (typeOf (Value.bytes x t) >>= _) _ _ _
  refine wpAny_bind (wpAny_typeOf (T := "bytes") (v := .bytes x t) (typeIs_bytes _ x t) ?_)
  refine wpAny_pure ?_
  rw [if_neg (by decide)]
  have W := PySem.W.KBw.walks (prog := prog) (w := w) (A := A.in1) hh s.heap.objs.size x t
  refine wpAny_pure ⟨plainId_quiet F.plain_extend_loop _, codeAny_extend_loopS W.toS hn S hSf res x.size 0 _ #[] c₀ rfl (Nat.zero_le _) ⟨_, Heap.get?_push_size _ rfl, rfl, rfl⟩ (Heap.get?_push_of_some _ hS) (ItemsOf.nil _) fun s' acc' c' hm hS' hacc => ?_⟩
  rw [Moved.eq_with hm]
  refine hR s'.heap s'.toks acc' c' (fun b ob hb e => hm.heap b ob (fun hmem => ?_) (Heap.get?_push_of_some _ e)) hS' hacc
  rcases List.mem_cons.mp hmem with e' | hmem
  · exact hb e'
  · exact absurd (Heap.lt_size e) (by rw [List.mem_singleton.mp hmem]; exact Nat.lt_irrefl _)
theorem list_init_bytes {R : Result → Shared → Prop} (hh : A.handled = none) (x : Array UInt8) (t : Tok) (S : Addr) (hS : s.heap.get? S = some { cls := .type "list", data := .seq #[] })
    (hR : ∀ h' tk acc' c', (∀ b o, b ≠ S → s.heap.get? b = some o → h'.get? b = some o) → h'.get? S = some { cls := .type "list", dict := none, data := .seq acc' c', slots := #[] } →
      ItemsOf (byteAt x) acc' x.size → R (.ok (.ret .none)) { s with heap := h', toks := tk }) (hn : x.size ≤ sizeLine) :
    wpAny (model prog w) A.in1 (Builtin.«list.__init__» ⟨[.ref S, .bytes x t], []⟩)
      (fun fin s' => match fin with | .done f => R (.ok f) s' | .again c' => c'.quiet = true ∧ codeAny (model prog w) A c' R s') (fun e s' => R (.error e) s') s := by
  show wpAny _ _ (do let old ← Builtin.List.listItems (.ref S); Builtin.List.listUpdate (.ref S) (fun _ => #[]); letGo old.toList.reverse; Builtin.List.listExtendWith (.ref S) (.bytes x t) .none) _ _ s
  refine wpAny_bind ?_
  unfold Builtin.List.listItems
  refine wpAny_bind (wpAny_seqItems hS rfl (wpAny_pure ?_))
  show wpAny _ _ (updateSeq S (fun _ => #[]) >>= fun _ => letGo (#[] : Array Value).toList.reverse >>= fun _ => Builtin.List.listExtendWith (.ref S) (.bytes x t) .none) _ _ s
  refine wpAny_bind (wpAny_updateSeq hS rfl ?_)
  have hS₂ := Heap.get?_update_self (Obj.mapSeq (fun _ => (#[] : Array Value))) hS rfl
  refine wpAny_bind (wpAny_letGo ?_)
  refine extend_bytes hh x t S .none _ hS₂ (fun h' tk acc' c' hk hS' hacc => ?_) hn
  exact hR h' tk acc' c' (fun b o hb e => hk b o hb ((Heap.get?_update_other _ _ (Ne.symm hb)).trans e)) hS' hacc
theorem items_ints {x : Array UInt8} {acc : Array Value} (h : ItemsOf (byteAt x) acc x.size) : IntsAre acc.toList (PySem.W.KBw.bInts x) := by
  have key : ∀ (l : List UInt8) (vs : List Value), vs.length = l.length → (∀ (i : Nat) (v : Value), vs[i]? = some v → ∃ (c : UInt8) (u : Tok), l[i]? = some c ∧ v = Value.int (c.toNat : Int) u) → IntsAre vs (l.map fun c => (c.toNat : Int)) := by
    intro l
    induction l with
    | nil => intro vs hl _; rw [List.length_eq_zero_iff.mp hl]; exact .nil
    | cons c l ih =>
      intro vs hl hv
      cases vs with
      | nil => cases hl
      | cons v vs =>
        obtain ⟨c', u, hc, rfl⟩ := hv 0 v rfl
        simp only [List.getElem?_cons_zero, Option.some.injEq] at hc
        subst hc
        exact .cons _ u (ih vs (by simpa using hl) fun i v' h' => hv (i + 1) v' (by simpa using h'))
  refine key x.toList acc.toList (by rw [Array.length_toList, Array.length_toList]; exact h.1) fun i v hv => ?_
  obtain ⟨c, u, hc, e⟩ := h.2 i v (by rw [← hv, Array.getElem?_toList])
  exact ⟨c, u, by rw [← hc, Array.getElem?_toList], e⟩
theorem list_bytes {h₀ : Heap} {L : Addr} {m : Str → Option Value} {news : Led} {Q : Value → Shared → Prop} {x : Array UInt8} {t : Tok} (hh : A.handled = none) (F : Fr h₀ L s.heap m) (N : News h₀ L s.heap news) (hn : x.size ≤ 1000000)
    (h : ∀ D us c h' tk, Fr h₀ L h' m → News h₀ L h' ((D, listOf (List.toArray us) c) :: news) → (∀ p ∈ news, p.1 < D) → IntsAre us (PySem.W.KBw.bInts x) → Q (.ref D) { s with heap := h', toks := tk }) :
    wpAny (model prog w) A (call (.type "list") [.bytes x t]) Q E s := by
  refine callType_codes (Q₁ := fun obj s₁ => obj = .ref s.heap.objs.size ∧ s₁ = { s with heap := s.heap.push { cls := .type "list", data := .seq #[] } }) PySem.F.called_list (PySem.F.typeCall_list_1 _) PySem.F.entry_list_init
    (code_list_new _ ⟨rfl, rfl⟩) fun obj s₁ h₁ => ?_
  obtain ⟨rfl, rfl⟩ := h₁
  have hS : (s.heap.push { cls := .type "list", data := .seq #[] }).get? s.heap.objs.size = some { cls := .type "list", data := .seq #[] } := Heap.get?_push_size _ rfl
  refine ⟨⟨_, hS, rfl⟩, PySem.F.args_list_init_2 _ _, list_init_bytes (A := A.in1) hh x t _ hS (fun h' tk acc' c' hk hS' hacc => ?_) (by rw [sizeLine_eq]; omega)⟩
  have hk' : ∀ b o, s.heap.get? b = some o → h'.get? b = some o := fun b o e => hk b o (Nat.ne_of_lt (Heap.lt_size e)) (Heap.get?_push_of_some _ e)
  refine ⟨rfl, h _ acc'.toList c' h' tk (F.keeps hk') (news_pushed F N hk' ?_ rfl) (fun p hp => Heap.lt_size (N p hp).1) (items_ints hacc)⟩
  rw [Array.toArray_toList]
  exact hS'
end
end Mine
namespace Mine
section
variable {prog : Program} {w : World} {A : Around} {E : Value → Shared → Prop} {s : Shared} {h₀ : Heap} {env : Env} {m : Str → Option Value}
theorem For_J {Q : Flow → Shared → Prop} {x : Str} {px pos : Pos} {iter : Expr} {body : List Stmt} (_F : Fr h₀ env.locals s.heap m) (hx : env.kindOf x = some .local)
    (hp : (env.scope.kind == .class || (env.scope.kind == .module && env.locals != env.globals)) = false)
    (h : wpAny (model prog w) A (eval iter env) (fun xv s₁ => wpAny (model prog w) A (pyIter xv) (fun it s₂ => LoopAtV prog w A h₀ env x body Q E it s₂) E s₁) E s)
    (hE : PassesOwn (model prog w) A env E)
    (hs : ∀ x, foldedSetIterable iter env x = pure x := by intro _; rfl) :
    wpAny (model prog w) A (exec (.For (.Name x px) iter body [] pos) env) Q E s := For_invV h₀ hx hp h hs hE
theorem For_Z {Q : Flow → Shared → Prop} {xi xc : Str} {pk pv pt pos : Pos} {x1 : Nat} {iter : Expr} {body : List Stmt} (_F : Fr h₀ env.locals s.heap m) (hh : A.handled = none)
    (hxi : env.kindOf xi = some .local) (hxc : env.kindOf xc = some .local)
    (hp : (env.scope.kind == .class || (env.scope.kind == .module && env.locals != env.globals)) = false)
    (h : wpAny (model prog w) A (eval iter env) (fun xv s₁ => wpAny (model prog w) A (pyIter xv) (fun it s₂ => PairAt3 prog w A h₀ env xi xc body Q E it s₂) E s₁) E s)
    (hE : PassesOwn (model prog w) A env E)
    (hs : ∀ x, foldedSetIterable iter env x = pure x := by intro _; rfl) :
    wpAny (model prog w) A (exec (.For (.Tuple [.Name xi pk, .Name xc pv] x1 pt) iter body [] pos) env) Q E s := For_pair3 h₀ hh hxi hxc hp h hs hE
end
end Mine
namespace Mine
theorem name1 {h₀ h : Heap} {L d1 : Addr} {o1 : Obj} {T : Led} {G : Prop} (_ : News h₀ L h ((d1, o1) :: T)) (k : ∀ a, a = d1 → G) : G := k _ rfl
theorem name2 {h₀ h : Heap} {L d1 d2 : Addr} {o1 o2 : Obj} {T : Led} {G : Prop} (_ : News h₀ L h ((d1, o1) :: (d2, o2) :: T)) (k : ∀ a b, a = d1 → b = d2 → G) : G := k _ _ rfl rfl
end Mine
end
section
open PySem PySem.W PyProof.Rows PySem.Calls
set_option maxRecDepth 100000
set_option exponentiation.threshold 6000
namespace Mine
theorem tabs_ne {h₀ h : Heap} {L P P' d : Addr} {Tb T : Led} {vs : Array Value} {k : Nat} (hT : Tabs P P' Tb) (N : News h₀ L h T) (hs : ∀ p ∈ Tb, p ∈ T) (hd : (d, listOf vs k) ∈ T) : ∀ p ∈ Tb, p.1 ≠ d := by
  intro p hp e
  have h1 := (N _ hd).1
  have h2 := (N _ (hs p hp)).1
  rw [e] at h2
  rw [h2] at h1
  have h3 := Option.some.inj h1
  obtain ⟨A, B, rfl, hA, hB⟩ := hT
  have key : ∀ {P : Addr} {li co : Nat} {q : Str} {A : Led}, TabOk P li co q A → p ∈ A → False := by
    intro P li co q A hA hp
    rcases hA with rfl | ⟨c', oc, vs', t, rfl, hd', hv⟩
    · rcases List.mem_singleton.mp hp with rfl
      cases h3
    · rcases List.mem_cons.mp hp with rfl | hp
      · cases h3
      · rcases List.mem_singleton.mp hp with rfl
        have h4 := congrArg Obj.data h3
        rw [hd'] at h4
        cases h4
  rcases List.mem_append.mp hp with hp | hp
  · exact key hA hp
  · exact key hB hp
theorem mul_lt2 {a b : Int} {k j : Nat} (ha : 0 ≤ a ∧ a < 2 ^ k) (hb : 0 ≤ b ∧ b < 2 ^ j) : 0 ≤ a * b ∧ a * b < 2 ^ (k + j) := by
  refine ⟨Int.mul_nonneg ha.1 hb.1, ?_⟩
  rw [Int.pow_add]
  have h1 : a * b ≤ a * 2 ^ j := Int.mul_le_mul_of_nonneg_left (by omega) ha.1
  have h2 : a * 2 ^ j < 2 ^ k * 2 ^ j := Int.mul_lt_mul_of_pos_right ha.2 pow_pos2
  omega
theorem add_lt2 {a b : Int} {k : Nat} (ha : 0 ≤ a ∧ a < 2 ^ k) (hb : 0 ≤ b ∧ b < 2 ^ k) : 0 ≤ a + b ∧ a + b < 2 ^ (k + 1) := by
  rw [Int.pow_succ]
  omega
theorem lt2_mono {a : Int} {k j : Nat} (ha : 0 ≤ a ∧ a < 2 ^ k) (h : k ≤ j) : 0 ≤ a ∧ a < 2 ^ j := ⟨ha.1, Int.lt_of_lt_of_le ha.2 (pow_le h)⟩
theorem small2 {a : Int} {k : Nat} (ha : 0 ≤ a ∧ a < 2 ^ k) (h : k ≤ 10000000) : Small a := small_pow (abs_lt ha) (by unfold big; exact h)
theorem pow2_lt {k j : Nat} (h : k < j) : (0 : Int) ≤ 2 ^ k ∧ (2 : Int) ^ k < 2 ^ j := by
  have h1 := pow_le (show k + 1 ≤ j from h)
  have h2 := pow_pos2 (a := k)
  rw [Int.pow_succ] at h1
  omega
end Mine
namespace Mine
theorem tabs_neN {h₀ h : Heap} {L P P' d : Addr} {Tb T : Led} {o : Obj} (hT : Tabs P P' Tb) (N : News h₀ L h T) (hs : ∀ p ∈ Tb, p ∈ T) (hd : (d, o) ∈ T) (hc : o.cls ≠ .none) (hn : NotCode o) : ∀ p ∈ Tb, p.1 ≠ d := by
  intro p hp e
  have h1 := (N _ hd).1
  have h2 := (N _ (hs p hp)).1
  rw [e] at h2
  rw [h2] at h1
  have h3 := Option.some.inj h1
  obtain ⟨A, B, rfl, hA, hB⟩ := hT
  have key : ∀ {P : Addr} {li co : Nat} {q : Str} {A : Led}, TabOk P li co q A → p ∈ A → False := by
    intro P li co q A hA hp
    rcases hA with rfl | ⟨c', oc, vs', t, rfl, hd', hv⟩
    · rcases List.mem_singleton.mp hp with rfl
      exact hc (congrArg Obj.cls h3.symm)
    · rcases List.mem_cons.mp hp with rfl | hp
      · exact hc (congrArg Obj.cls h3.symm)
      · rcases List.mem_singleton.mp hp with rfl
        have h3' : oc = o := h3
        exact hn vs' q t (h3' ▸ hd') hv
  rcases List.mem_append.mp hp with hp | hp
  · exact key hA hp
  · exact key hB hp
theorem iterN {o : Obj} {T : String} (h : o.cls = .type T ∧ NotCode o) : o.cls ≠ .none := by rw [h.1]; simp
end Mine
namespace Mine
theorem map_two {stored : List Str} {a b : Str} {v w : Value} {m m₀ : Str → Option Value} (hv : m a = some v) (hw : m b = some w) (h : ∀ y, stored.contains y = false → m y = m₀ y) :
    m = fun y => if y = a then some v else if y = b then some w else mapD stored m m₀ y := by
  funext y
  by_cases e : y = a
  · rw [if_pos e, e]; exact hv
  · rw [if_neg e]
    by_cases e2 : y = b
    · rw [if_pos e2, e2]; exact hw
    · rw [if_neg e2]; exact congrFun (mapD_of h) y
end Mine
namespace Mine
section
variable {prog : Program} {w : World} {A : Around} {E : Value → Shared → Prop} {s : Shared} {h₀ : Heap} {L l : Addr} {m : Str → Option Value} {news : Led} {t u : Tok}
theorem slice_tmpK {value slice : Expr} {vs : List Value} {k a : Nat} {Q : Value → Shared → Prop} (F : Fr h₀ L s.heap m) (N : News h₀ L s.heap news) (hl : (l, listOf vs.toArray k) ∈ news) (ha : a ≤ vs.length) (hz : vs.length ≤ 1000000)
    (h : ∀ D h', Fr h₀ L h' m → News h₀ L h' ((D, listOf (vs.drop a).toArray 0) :: news) → (∀ p ∈ news, p.1 < D) → Q (.ref D) { s with heap := h' })
    (hs : subscripted slice false (.ref l) (.ref s.heap.objs.size) = operate [.ref s.heap.objs.size, .ref l] (getItem (.ref l) (.ref s.heap.objs.size))) :
    wpAny (model prog w) A (subscriptTail value slice (.ref l) (.ref s.heap.objs.size)) Q E { s with heap := s.heap.push { cls := .type "slice", data := .fields #[.int (a : Int) t, .none, .none] } } := by
  have hls : s.heap.IsList l vs.toArray := PySem.IsL.isList (n := k) (N _ hl).1
  refine tail_any (Heap.IsList.typeIs (s := { s with heap := s.heap.push { cls := .type "slice", data := .fields #[.int (a : Int) t, .none, .none] } }) (hls.push _)) list_getitem_lookup
    (wpAny_getItem_list_slice (hls.push _) (Heap.IsSliceOf.new ..) (IsPart.int _ _) IsPart.none .none (by simp) ?_ (by rw [List.size_toArray, sizeLine_eq]; omega)) hs
  have N1 := News.push (F.push { cls := .type "slice", data := .fields #[.int (a : Int) t, .none, .none] }) (N.grown fun _ _ e => Heap.get?_push_of_some _ e) { cls := .type "list", data := .seq (slicePick vs.toArray (some (a : Int)) none none) }
  have e : slicePick vs.toArray (some (a : Int)) none none = (vs.drop a).toArray := by rw [← pick_from ha, Array.toArray_toList]
  rw [e] at N1 ⊢
  rw [Heap.size_push] at N1
  refine h _ _ ((F.push _).push _) ?_ (fun p hp => ?_)
  · show News _ _ _ (((s.heap.push _).objs.size, _) :: _)
    rw [Heap.size_push]
    exact N1
  · show p.1 < (s.heap.push _).objs.size
    rw [Heap.size_push]
    exact Nat.lt_succ_of_lt (Heap.lt_size (N p hp).1)
end
end Mine
end
section
open PySem PySem.W PyProof.Rows PySem.Calls
set_option maxRecDepth 100000
namespace Mine
theorem bswIn_get (b : Array UInt8) (w : Nat) (acc : Array UInt8) (hs : acc.size = w) (hb : b.size = w) : ∀ (j : Nat), j ≤ w → ∀ k, k < w → (bswIn b w 0 acc j)[k]? = if w - j ≤ k then some (b.getD (w - 1 - k) 0) else acc[k]?
  | 0, _, k, hk => by rw [bswIn, if_neg (by omega)]
  | j + 1, hj, k, hk => by
    have ih := bswIn_get b w acc hs hb j (by omega) k hk
    have hsz := bswIn_size b w 0 acc j
    rw [bswIn, Array.getElem?_setIfInBounds]
    by_cases e : 0 * w + w - 1 - j = k
    · have e2 : 0 * w + j = w - 1 - k := by omega
      rw [if_pos e, if_pos (by omega), if_pos (by omega), e2]
    · rw [if_neg e, ih]
      by_cases h : w - j ≤ k
      · rw [if_pos h, if_pos (by omega)]
      · rw [if_neg h, if_neg (by omega)]
theorem bsw_all {b : Array UInt8} : bswOut b b.size 1 = b.reverse := by
  apply Array.ext_getElem?
  intro k
  have hs : (bswOut b b.size 0).size = b.size := bswOut_size b b.size 0
  by_cases hk : k < b.size
  · rw [bswOut, bswIn_get b b.size _ hs rfl b.size (Nat.le_refl _) k hk, if_pos (by omega)]
    rw [Array.getElem?_reverse hk, Array.getD_eq_getD_getElem?]
    rw [Array.getElem?_eq_getElem (show b.size - 1 - k < b.size by omega)]
    rfl
  · rw [Array.getElem?_eq_none (by rw [bswOut_size]; omega), Array.getElem?_eq_none (by rw [Array.size_reverse]; omega)]
theorem bInts_reverse {b : Array UInt8} : PySem.W.KBw.bInts b.reverse = (PySem.W.KBw.bInts b).reverse := by
  unfold PySem.W.KBw.bInts
  rw [Array.toList_reverse, List.map_reverse]
theorem bInts_inj {b c : Array UInt8} (h : PySem.W.KBw.bInts b = PySem.W.KBw.bInts c) : b = c := by
  apply Array.toList_inj.mp
  unfold PySem.W.KBw.bInts at h
  generalize b.toList = l at *
  generalize c.toList = l' at *
  induction l generalizing l' with
  | nil => cases l' with
    | nil => rfl
    | cons x l' => cases h
  | cons a l ih => cases l' with
    | nil => cases h
    | cons a' l' =>
      simp only [List.map_cons, List.cons.injEq] at h
      have e : a = a' := UInt8.toNat_inj.mp (by omega)
      rw [e, ih l' h.2]
noncomputable def exchI (ks : List Int) : List Int := ks.reverse.map fun c => 3 - c
end Mine
namespace Mine
theorem specX_use {prog : Program} {w : World} {K : Frag} {p : Program} {loose : List Str} {mean : ExcName → Option Value} {mg mb : Str → Option Value} {dd uu : Nat} {f : Addr} {vs : List Value} {T : Led} {Post : Value → Led → Prop}
    {dp un : Nat} {gd : Option (List Code)} {cn : Str} {cs : Scope} {a : Addr} {ccd : Value} {cl : List (Str × Addr)} {outer : List Env} {A₀ : Around} {base h₀ : Heap} {L : Addr} {m : Str → Option Value} {s : Shared} {Q E : Value → Shared → Prop}
    (S : SpecX prog w K p loose mean mg mb dd uu f vs T Post) (B : Below A₀ base outer h₀) (F : Fr h₀ L s.heap m) (X : K.In h₀) (N : News h₀ L s.heap T) (Tp : Top p loose mean mg mb h₀) (hk : cs.kind = .function) (hd : dp + dd < recursionLimit) (hu : un + uu < cLine)
    (k : ∀ (r : Value) (new : Led) (h' : Heap) (tk' : Nat), Fr h₀ L h' m → News h₀ L h' (new ++ T) → (∀ q ∈ T, ∀ p ∈ new, q.1 < p.1) → Post r new → Q r { s with heap := h', toks := tk' }) :
    wpX (model prog w) (ktrTop dp un gd cn cs L a ccd cl outer) (call (.ref f) vs) Q E s := S _ _ _ _ _ _ _ _ _ _ _ _ _ _ _ _ _ B F X N Tp hk hd hu k
section
variable {prog : Program} {w : World} {A : Around} {E : Value → Shared → Prop} {s : Shared} {h₀ : Heap} {L l : Addr} {m : Str → Option Value} {news : Led} {ws : List Value} {k : Nat} {ns : List Int}
theorem bytesL_K {Q : Value → Shared → Prop} (hh : A.handled = none) (F : Fr h₀ L s.heap m) (N : News h₀ L s.heap news) (hl : (l, listOf ws.toArray k) ∈ news) (hi : IntsAre ws ns) (hr : ∀ n ∈ ns, 0 ≤ n ∧ n < 256) (hz : ws.length ≤ 1000000)
    (h : ∀ b' t h' tk, PySem.W.KBw.bInts b' = ns → b'.size = ns.length → Fr h₀ L h' m → News h₀ L h' news → Q (.bytes b' t) { s with heap := h', toks := tk }) : wpAny (model prog w) A (call (.type "bytes") [.ref l]) Q E s :=
  PySem.W.KBa.make_K F N hh (PySem.IsL.isList (n := k) (N _ hl).1) hi hr (by rw [← hi.length]; omega) fun h' t' tk F' N' hr' => h _ t' h' tk (PySem.W.KBa.ints_make hr) (byteArr_size ns) F' N'
theorem addB_K {b c : Array UInt8} {t u : Tok} {Q : Value → Shared → Prop} (hz : b.size + c.size ≤ 1000000) (h : ∀ t' tk, (b ++ c).size = b.size + c.size → Q (.bytes (b ++ c) t') { s with toks := tk }) :
    wpAny (model prog w) A (binaryOp .Add (.bytes b t) (.bytes c u)) Q E s :=
  PySem.W.KBa.add_K rfl rfl (by rw [PySem.W.KBw.ints_length, PySem.W.KBw.ints_length]; omega) fun t' tk e => h t' tk (Array.size_append ..)
theorem bInts_app {b c : Array UInt8} : PySem.W.KBw.bInts (b ++ c) = PySem.W.KBw.bInts b ++ PySem.W.KBw.bInts c := PySem.W.KBw.ints_app rfl rfl
end
theorem bInts_size {b : Array UInt8} {ks : List Int} (h : PySem.W.KBw.bInts b = ks) : b.size = ks.length := by rw [← h, PySem.W.KBw.ints_length]
theorem bInts_at {b : Array UInt8} {i : Nat} {c : UInt8} (h : b[i]? = some c) : (PySem.W.KBw.bInts b).getD i 0 = (c.toNat : Int) := by
  rw [List.getD_eq_getElem?_getD, PySem.W.KBw.ints_get h]; rfl
theorem range_getD {ks : List Int} {g : Int → Int} : (List.range ks.length).map (fun i => g (ks.getD i 0)) = ks.map g := by
  apply List.ext_getElem
  · simp
  · intro i h1 h2
    simp only [List.length_map, List.length_range] at h1
    simp [List.getD_eq_getElem?_getD, List.getElem?_eq_getElem h1]
end Mine
end
section
open PySem PySem.W PyProof.Rows PySem.Calls
open PySem.Sem (wp)
set_option maxRecDepth 100000
namespace Mine
abbrev Never : Value → Shared → Prop := fun _ _ => False
section
variable {M : Model} {A : Around} {E : Value → Shared → Prop} {s : Shared} {env : Env}
theorem wpX_never {α : Type} {t : Sem α} {Q : α → Shared → Prop} (h : wpX M A t Q Never s) : wpX M A t Q E s := wpX_mono h (fun _ _ q => q) fun _ _ f => f.elim
theorem wpX_BinOp {l r : Expr} {op : Operator} {pos : Pos} {Q : Value → Shared → Prop}
    (h : wpX M A (eval l env) (fun a s₁ => wpX M A (eval r env) (fun b s₂ => wpAny M A (binaryOp op a b) Q E s₂) E s₁) E s) :
    wpX M A (eval (.BinOp l op r pos) env) Q E s := fun Γ p k1 k2 hΓ => by
  simp only [eval_BinOp, Sem.wp_bind', Sem.wp_holding, Sem.wp_cmd_standAt, Sem.wp_operate]
  exact Sem.wp_mono M Γ _ (fun a p₁ s₁ h₁ => Sem.wp_mono M Γ _ (fun b _ s₂ h₂ => h₂ Γ _ hΓ) (fun _ _ _ h' => h') _ _ (h₁ Γ p₁ k1 k2 hΓ))
    (fun _ _ _ h' => h') _ _ (h Γ p k1 k2 hΓ)
theorem wpX_runOwn {c : Code} {h : Option Value} {Q : Flow → Shared → Prop}
    (hc : codeX M (A.mark h) c (fun r s' => match r with | .ok f => Q f s' | .error _ => False) s) (hnb : h ≠ some byPass := by intro x; cases x) :
    wpX M A (runOwn c env h) Q E s := by
  unfold runOwn
  exact wpX_onRaise (wpX_run (codeX_mono hc fun r s' hr => by cases r with | ok f => exact hr | error e => exact hr.elim) hnb)
theorem wpX_For {target iter : Expr} {body orelse : List Stmt} {pos : Pos} {Q : Flow → Shared → Prop}
    (h : wpAny M A (eval iter env) (fun x s₁ => wpAny M A (pyIter x) (fun it s₂ =>
      codeX M A (.forLoop target it body orelse env) (fun r s' => match r with | .ok f => Q f s' | .error _ => False) s₂) E s₁) E s)
    (hs : ∀ x, foldedSetIterable iter env x = pure x := by intro _; rfl) :
    wpX M A (exec (.For target iter body orelse pos) env) Q E s := by
  rw [exec_For]
  exact wpX_bindA (wpAny_standAt (wpX_bindA (wpAny_mono h (fun x s₁ h₁ => wpX_bindA (wpAny_of_eq (hs x) (wpX_bindA (wpAny_standAt (wpX_bindA (wpAny_holding
    (wpAny_mono h₁ (fun it s₂ h₂ => wpX_runOwn h₂) fun _ _ h' => h'))))))) fun _ _ h' => h')))
theorem codeX_loop' {c : Code} {R : Result → Shared → Prop} (hq : c.quiet = true) (hc : holds c = false) (I : Nat → Shared → Prop)
    (turn : ∀ n s, I n s → wpX M (A.under c) (M.den c)
      (fun fin s' => match fin with
        | .done f => R (.ok f) s'
        | .again c' => (c' = c ∧ ∃ m, m < n ∧ I m s') ∨ (c'.quiet = true ∧ codeX M A c' R s')) (fun e s' => R (.error e) s') s)
    (n : Nat) (h : I n s) : codeX M A c R s := by
  induction n using Nat.strongRecOn generalizing s with
  | ind n ih =>
    refine codeX_of_tree hc (wpX_mono (turn n s h) (fun fin s' hf => ?_) fun _ _ h' => h')
    cases fin with
    | done f => exact hf
    | again c' =>
      rcases hf with ⟨rfl, m, hm, hI⟩ | hf
      · exact ⟨hq, ih m hm hI⟩
      · exact hf
end
section
variable {prog : Program} {w : World} {A : Around} {E : Value → Shared → Prop} {s : Shared} {env : Env} {h₀ : Heap} {x : Str} {px : Pos} {body : List Stmt} {Q : Flow → Shared → Prop}
theorem codeX_forLoop {R : Result → Shared → Prop} {target : Expr} {it : Value} (I : Nat → Shared → Prop)
    (turn : ∀ n s, I n s → wpAny (model prog w) A (pyNext it) (fun r s₁ => match r with
      | none => R (.ok .next) s₁
      | some v => wpAny (model prog w) A (letOwnedTupleGo target it v) (fun _ s₁' =>
          wpAny (model prog w) A (assign target env v) (fun _ s₂ => wpX (model prog w) A (execs body env) (fun f s₃ => match f with
            | .next | .cont => ∃ m, m < n ∧ I m s₃
            | .brk => R (.ok .next) s₃
            | .ret v => R (.ok (.ret v)) s₃) Never s₂) Never s₁') Never s₁) Never s)
    (n : Nat) (h : I n s) : codeX (model prog w) A (.forLoop target it body [] env) R s := by
  refine codeX_loop' rfl rfl I (fun n s hI => ?_) n h
  show wpX _ A ((forTurn target it body [] env).onRaise (fun x => do noteFrame x env; theTreesLotGoes x)) _ _ s
  refine wpX_onRaise (wpX_mono (Q := fun fin s' => match fin with
        | .done f => R (.ok f) s'
        | .again c' => (c' = .forLoop target it body [] env ∧ ∃ m, m < n ∧ I m s') ∨ (c'.quiet = true ∧ codeX (model prog w) A c' R s')) (E := Never) ?_ (fun _ _ q => q) fun _ _ f => f.elim)
  simp only [forTurn]
  refine wpX_bindA (wpAny_standAt (wpX_bindA (wpAny_onRaise (wpAny_mono (turn n s hI) (fun r s₁ h₁ => ?_) fun _ _ h' => h'.elim))))
  cases r with
  | none => exact wpX_pure (.inr ⟨rfl, codeX_of_any (codeAny_block (wpAny_pure h₁))⟩)
  | some v =>
    refine wpX_bindA (wpAny_mono h₁ (fun _ s₁' h₁' => ?_) fun _ _ h' => h')
    refine wpX_bindA (wpAny_mono h₁' (fun _ s₂ h₂ => wpX_bind (wpX_mono h₂ (fun f s₃ h₃ => ?_) fun _ _ h' => h')) fun _ _ h' => h')
    cases f with
    | next => exact wpX_pure (.inl ⟨rfl, h₃⟩)
    | cont => exact wpX_pure (.inl ⟨rfl, h₃⟩)
    | brk => exact wpX_pure h₃
    | ret v => exact wpX_pure h₃
theorem forX_list {l : Addr} {vs : List Value} {k : Nat} {m₀ : Str → Option Value} {news : Led} (J : Nat → (Str → Option Value) → Led → Prop)
    (hh : A.handled = none) (hl : (l, listOf vs.toArray k) ∈ news) (hfix : ∀ i m led, J i m led → (l, listOf vs.toArray k) ∈ led) (hx : env.kindOf x = some .local)
    (hp : (env.scope.kind == .class || (env.scope.kind == .module && env.locals != env.globals)) = false)
    (F : Fr h₀ env.locals s.heap m₀) (N : News h₀ env.locals s.heap news) (hj : J 0 m₀ news)
    (turn : ∀ I i v m₁ news₁ h tk it, vs[i]? = some v → J i m₁ news₁ → (∀ p ∈ news₁, p.1 ≠ I) → Fr h₀ env.locals h (fun y => if y = x then some v else m₁ y) → News h₀ env.locals h ((I, it) :: news₁) →
      wpX (model prog w) A (execs body env) (TurnJ h₀ env.locals I it (J (i + 1)) { s with heap := h, toks := tk } Q) Never { s with heap := h, toks := tk })
    (done : ∀ m₁ news₁ h tk, J vs.length m₁ news₁ → Fr h₀ env.locals h m₁ → News h₀ env.locals h news₁ → Q .next { s with heap := h, toks := tk }) :
    wpAny (model prog w) A (pyIter (.ref l)) (fun it s₂ => codeX (model prog w) A (.forLoop (.Name x px) it body [] env) (fun r s' => match r with | .ok f => Q f s' | .error _ => False) s₂) E s := by
  have hls : s.heap.IsList l vs.toArray := PySem.IsL.isList (n := k) (N _ hl).1
  have hlt : l < s.heap.objs.size := Heap.lt_size (N _ hl).1
  have hne : l ≠ s.heap.objs.size := Nat.ne_of_lt hlt
  refine wpAny_pyIter_list hls ?_
  have W : Walks prog w A s.heap.objs.size [s.heap.objs.size, l] [s.heap.objs.size] vs.length (fun i v => vs.toArray[i]? = some v) (fun i h => h.IsListIter s.heap.objs.size l i ∧ h.IsList l vs.toArray) := Walks.list (prog := prog) (w := w) hh s.heap.objs.size l hne vs.toArray
  have hI₀ : h₀.get? s.heap.objs.size = none := next_is_new F
  have hLI : env.locals ≠ s.heap.objs.size := Nat.ne_of_lt F.ns.lt
  have up : ∀ b o, s.heap.get? b = some o → (s.heap.push { cls := .type "list_iterator", data := .fields #[.ref l, .int 0 0] }).get? b = some o := fun b o e => Heap.get?_push_of_some _ e
  generalize hI : s.heap.objs.size = I at *
  refine codeX_forLoop (I := fun n s' => ∃ i h tk m led, s' = { s with heap := h, toks := tk } ∧ i ≤ vs.length ∧ n = vs.length + 1 - i ∧ (h.IsListIter I l i ∧ h.IsList l vs.toArray) ∧ Fr h₀ env.locals h m ∧ News h₀ env.locals h led ∧ (∀ p ∈ led, p.1 ≠ I) ∧ J i m led) ?_ (vs.length + 1)
    ⟨0, _, s.toks, m₀, news, rfl, Nat.zero_le _, rfl, ⟨⟨_, by rw [← hI]; exact Heap.get?_push_size _ rfl, rfl, rfl⟩, hls.push _⟩, F.push _, fun p hp => ⟨up _ _ (N p hp).1, (N p hp).2⟩, fun p hp => by rw [← hI]; exact Nat.ne_of_lt (Heap.lt_size (N p hp).1), hj⟩
  rintro n s' ⟨i, h', tk, m', led, rfl, hi, rfl, hst', F', N', off, hJ⟩
  by_cases hlt' : i < vs.length
  · refine W.item i _ _ _ hlt' hst' fun v h₂ tk₂ hPv hst₂ hk₂ => ?_
    refine wpAny_of_eq (a := ()) rfl ?_
    have F₂ : Fr h₀ env.locals h₂ m' := PyProof.Rows.LCg.fr_but F' hk₂ hLI hI₀
    have N₂ : News h₀ env.locals h₂ led := PyProof.Rows.LCg.news_but N' hk₂ off
    refine wpAny_assign_Name (wpAny_storeName_local hx F₂.ns (fun h₃ hn₃ hs₃ => ?_) hp)
    have hL₀ : h₀.get? env.locals = none := Heap.get?_none_of_le F₂.above
    have F₃ : Fr h₀ env.locals h₃ (fun z => if z = x then some v else m' z) := ⟨hn₃, fun b o e => hs₃.extBut b o (fun q => by rw [q, hL₀] at e; cases e) (F₂.keep b o e), F₂.above⟩
    have hst₃ : h₃.IsListIter I l (i + 1) ∧ h₃.IsList l vs.toArray := W.frame _ _ _ hst₂ fun b hb o e => hs₃.extBut b o (fun q => by
      rcases List.mem_cons.mp hb with hb | hb
      · exact hLI (q.symm.trans hb)
      · exact (N₂ _ (hfix _ _ _ hJ)).2.1 ((List.mem_singleton.mp hb).symm.trans q)) e
    obtain ⟨it, hit, hc, hd⟩ := hst₃.1
    have N₃ : News h₀ env.locals h₃ ((I, it) :: led) := fun p hp => by
      rcases List.mem_cons.mp hp with rfl | hp
      · exact ⟨hit, Ne.symm hLI, hI₀⟩
      · have z := N₂ p hp
        exact ⟨hs₃.extBut _ _ z.2.1 z.1, z.2⟩
    refine wpX_mono (turn I i v m' led h₃ _ it (by simpa using hPv) hJ off F₃ N₃) (fun f s₃ hf => ?_) fun _ _ e => e
    have fin : (∃ h₄ tk₄ m₄ led₄, s₃ = { ({ s with heap := h₃, toks := tk₂ } : Shared) with heap := h₄, toks := tk₄ } ∧ Fr h₀ env.locals h₄ m₄ ∧ News h₀ env.locals h₄ ((I, it) :: led₄) ∧ (∀ p ∈ led₄, p.1 ≠ I) ∧ J (i + 1) m₄ led₄) →
        ∃ m, m < vs.length + 1 - i ∧ ∃ i h tk m' led, s₃ = { s with heap := h, toks := tk } ∧ i ≤ vs.length ∧ m = vs.length + 1 - i ∧ (h.IsListIter I l i ∧ h.IsList l vs.toArray) ∧ Fr h₀ env.locals h m' ∧ News h₀ env.locals h led ∧ (∀ p ∈ led, p.1 ≠ I) ∧ J i m' led := by
      rintro ⟨h₄, tk₄, m₄, led₄, rfl, F₄, N₄, off₄, hJ₄⟩
      exact ⟨vs.length + 1 - (i + 1), by omega, i + 1, h₄, tk₄, m₄, led₄, rfl, hlt', rfl, ⟨⟨it, (N₄ _ (.head _)).1, hc, hd⟩, PySem.IsL.isList (n := k) (N₄ _ (.tail _ (hfix _ _ _ hJ₄))).1⟩, F₄, fun p hp => N₄ p (.tail _ hp), off₄, hJ₄⟩
    cases f with
    | ret v => exact hf
    | brk => exact hf
    | next => exact fin hf
    | cont => exact fin hf
  · obtain rfl : i = vs.length := Nat.le_antisymm hi (Nat.not_lt.mp hlt')
    refine W.done _ _ _ hst' fun h₂ tk₂ hk₂ => ?_
    exact done m' led h₂ tk₂ hJ (PyProof.Rows.LCg.fr_but F' hk₂ hLI hI₀) (PyProof.Rows.LCg.news_but N' hk₂ off)
end
end Mine
end
section
open PySem PySem.W PyProof.Rows PySem.Calls
open PySem.Sem (wp)
set_option maxRecDepth 100000
namespace Mine
noncomputable def retOf (r : Result) : Sem PySem.Fin := match r with | .ok f => pure (PySem.Fin.done f) | .error e => throw e
theorem point_of {R₁ R₂ : Result → Shared → Prop} (h : ∀ (M : Model) (cd : Code) (s : Shared), codeAny M (callerA.mark none) cd R₁ s → codeAny M (callerA.mark none) cd R₂ s) (p₀ : Program) (w₀ : World) : ∀ r s, R₁ r s → R₂ r s := by
  intro r s hr
  have hc : codeAny ⟨fun _ => retOf r, p₀, w₀⟩ (callerA.mark none) (.call .none ⟨[], []⟩) R₂ s := h _ _ s (fun Γ p e hΓ => by
    rw [wpCode_iff_wp]
    show wp _ Γ (retOf r) _ _ p s
    cases r with
    | ok f => unfold retOf; rw [Sem.wp_pure']; exact hr
    | error e => unfold retOf; rw [Sem.wp_throw]; exact hr)
  have hΓ := caller_in.enter (.call .none ⟨[], []⟩) none default (by intro x; cases x)
  have h2 := hc _ default rfl hΓ
  rw [wpCode_iff_wp] at h2
  cases r with
  | ok f =>
    have h3 : wp _ _ (retOf (.ok f)) _ _ default s := h2
    unfold retOf at h3; rw [Sem.wp_pure'] at h3; exact h3
  | error e =>
    have h3 : wp _ _ (retOf (.error e)) _ _ default s := h2
    unfold retOf at h3; rw [Sem.wp_throw] at h3; exact h3
theorem kn_postX {M : Model} {A : Around} {cd : Code} {s s₁ : Shared} {cw : ClaimW} {cl : Str → Option Addr} {mean : ExcName → Option Value} {args : List WData} {tabs : List (Addr × Addr)} (hT : TabsAt tabs s₁.heap) (hr : ∀ a x, cw.raises a x = false)
    (h : codeX M A cd (fun r s' => GoodW cw cl mean args { s₁ with heap := ghostOf s₁.heap tabs } r s' ∧ GrownAll tabs s'.heap) s) : codeX M A cd (GoodWG cw cl mean args s₁) s :=
  codeX_mono h (point_of (fun M' cd' s' h' => kn_post hT hr h') M.prog M.w)
theorem enter_callX {M : Model} {A : Around} {s : Shared} {f : Value} {pos : List Value} {c : ClaimW} {cl : Str → Option Addr} {mean : ExcName → Option Value} {args : List WData} {s₁ : Shared}
    (h : codeX M A (.call f ⟨pos, []⟩) (GoodWG c cl mean args s₁) s) : wpX M A (PySem.call f pos) (fun v s' => GoodWG c cl mean args s₁ (.ok (.ret v)) s') (fun e s' => GoodWG c cl mean args s₁ (.error e) s') s :=
  wpX_call (codeX_mono h fun res s' g => by rcases g.1 with ⟨v, _, _, rfl, _⟩ | ⟨e, _, _, rfl, _⟩ <;> exact g)
section
variable {prog : Program} {w : World} {A : Around} {s : Shared} {R : Result → Shared → Prop}
theorem call_cellsX {name : Str} {params : Arguments} {body : List Stmt} {scope : Scope}
    {pm cd doc : Value} {a : Addr} {o : Obj} {args : List Value} {binds : List (Str × Value)}
    (hroom : A.depth < recursionLimit) (ho : s.heap.get? a = some o) (hdata : o.data = .func (Calls.docDef name params body scope pm cd doc)) (hlim : s.heap.NoLimit) (hcd : s.heap.CodeRec cd name)
    (hbind : bindArgs (Calls.docDef name params body scope pm cd doc) ⟨args, []⟩ = pure binds)
    (hkind : ∀ x ∈ binds, scope.names.lookup x.1 = some .local ∨ (scope.names.lookup x.1 = some .cell ∧ ((cellsFrom (s.heap.objs.size + 1) scope.names []).lookup x.1).isSome = true))
    (hnd : ((cellsFrom 0 scope.names []).map (·.1)).Nodup)
    (h : ∀ h₁ tk cells, Fr s.heap s.heap.objs.size h₁ (bindL (envOfC name scope s.heap.objs.size a cd).kindOf binds fun _ => none) → News s.heap s.heap.objs.size h₁ cells →
      CellsAre (bindC (envOfC name scope s.heap.objs.size a cd).kindOf binds fun _ => none) (cellsFrom (s.heap.objs.size + 1) scope.names []) cells →
      wpX (model prog w) (A.deeper (envOfC name scope s.heap.objs.size a cd)) (execs body (envOfC name scope s.heap.objs.size a cd))
        (fun f s' => R (.ok (.ret (match f with | .ret v => v | _ => .none))) s') Never
        { s with heap := h₁, toks := tk })
    (hco : scope.isCoroutine = false := by rfl) (hgen : scope.isGenerator = false := by rfl) (hk : scope.kind = .function := by rfl) :
    codeX (model prog w) A (.call (.ref a) ⟨args, []⟩) R s := by
  refine codeX_call_function (fd := Calls.docDef name params body scope pm cd doc) hroom ho hdata hco hgen rfl hcd ?_
  rw [hbind]
  refine wpAny_pure (wpAny_newFunctionEnv_cells hk hkind fun env he s' x => ?_)
  subst he
  refine ⟨hlim.keeps x.toInCall.keep, codeX_func (wpX_never ?_)⟩
  obtain ⟨h₁, tk, rfl, _⟩ := x.done
  obtain ⟨cells, N, Y⟩ := Cl.news (h₀ := s.heap) (Nat.le_refl _) fun n c hm => ⟨x.cell n c (lookup_of_mem_nodup (cellsFrom_names scope.names 0 (s.heap.objs.size + 1) [] [] rfl ▸ hnd) hm), x.above n c hm⟩
  exact h h₁ tk cells ⟨x.toInCall.ns, x.toInCall.keep, x.toInCall.fresh⟩ N Y
end
end Mine
namespace Mine
section
variable {M : Model} {A : Around} {E : Value → Shared → Prop} {s : Shared} {env : Env}
theorem wpX_isTrue_Compare1 {l r : Expr} {op : CmpOp} {pos : Pos} {whole : Sem Value} {Q : Bool → Shared → Prop}
    (h : wpX M A (eval l env) (fun a s₁ => wpAny M A (eval r env) (fun b s₂ => wpAny M A (compareOp op a b)
      (fun c s₃ => wpAny M A (truthy c) Q E s₃) E s₂) E s₁) E s)
    (hm : behindInMarks op r = false := by with_unfolding_all rfl) : wpX M A (isTrue (.Compare l [op] [r] pos) env whole) Q E s := fun Γ p k1 k2 hΓ => by
  simp only [isTrue_Compare1, markedBehindIn_of_false hm, Sem.wp_bind', Sem.wp_holding, Sem.wp_cmd_standAt, Sem.wp_operate]
  exact Sem.wp_mono M Γ _ (fun a p₁ s₁ h₁ => Sem.wp_mono M Γ _ (fun b _ s₂ h₂ => Sem.wp_mono M Γ _ (fun c p₃ s₃ h₃ => h₃ Γ p₃ hΓ)
    (fun _ _ _ h' => h') _ _ (h₂ Γ _ hΓ)) (fun _ _ _ h' => h') _ _ (h₁ Γ p₁ hΓ)) (fun _ _ _ h' => h') _ _ (h Γ p k1 k2 hΓ)
theorem wpX_If {test : Expr} {body orelse : List Stmt} {pos : Pos} {Q : Flow → Shared → Prop}
    (h : wpX M A (isTrue test env (eval test env))
      (fun b s₂ => if b then wpX M A (execs body env) Q E s₂ else wpX M A (execs orelse env) Q E s₂) E s) :
    wpX M A (exec (.If test body orelse pos) env) Q E s := fun Γ p k1 k2 hΓ => by
  simp only [exec_If, Sem.wp_bind', Sem.wp_cmd_standAt]
  refine Sem.wp_mono M Γ _ (fun b p₂ s₂ h₂ => ?_) (fun _ _ _ h' => h') _ _ (h Γ _ k1 k2 hΓ)
  cases b <;> exact h₂ Γ p₂ k1 k2 hΓ
theorem wpX_isTrue_or {x : Expr} {rest : List Expr} {pos : Pos} {whole : Sem Value} {Q : Bool → Shared → Prop}
    (h : wpX M A (isTrue x env (eval x env)) (fun c s' => if c then Q true s' else wpX M A (isTrue (.BoolOp .Or rest pos) env whole) Q E s') E s) :
    wpX M A (isTrue (.BoolOp .Or (x :: rest) pos) env whole) Q E s := by
  show wpX M A (do
    match BoolOp.Or, ← isTrue x env (eval x env) with
    | .And, false => pure false
    | .Or, true => pure true
    | _, _ => allTrue .Or rest env) Q E s
  refine wpX_bind (wpX_mono h (fun c s' h' => ?_) fun _ _ x => x)
  cases c with
  | true => exact wpX_pure h'
  | false => exact h'
end
end Mine
end
section
open PySem PySem.W PyProof.Rows PySem.Calls
open PySem.Sem (wp)
set_option maxRecDepth 100000
namespace Mine
theorem wp_of_wpX {M : Model} {t : Sem PySem.Fin} {R : Result → Shared → Prop} {s : Shared}
    (h : wpX M callerA t (fun fin s' => ∃ f, fin = .done f ∧ R (.ok f) s') (fun e s' => R (.error e) s') s) (p : Pos) :
    wp M ⟨.builtin "claim.caller" {}, none, none, [], none⟩ t (Sem.finPost M ⟨.builtin "claim.caller" {}, none, none, [], none⟩ R) (fun e _ s' => R (.error e) s') p s := by
  refine Sem.wp_mono M _ t (fun fin p' s' h' => ?_) (fun _ _ _ h' => h') p s (h _ p (fun _ hx => nomatch hx) (show badIds.contains "claim.caller" = false from by decide +kernel) caller_in)
  obtain ⟨f, rfl, hf⟩ := h'
  exact hf
abbrev WalkX (q : Program) (loose : List Str) (XP : (Str → Option Value) → Heap → Prop) (YP : World → Heap → Prop) (r : RowW) (d : DefRec) (kwd : List (Str × Expr)) : Prop :=
  ∀ (w : World) (s₀ s₁ : Shared) (mg mb : Str → Option Value), Ground q loose r.records XP w s₀ mg mb s₁.heap → YP w s₁.heap → ∀ (a : Addr) (o : Obj) (pm cd doc dV kV : Value), s₁.heap.get? a = some o →
    o.data = .func { docDef d.name d.params d.body d.scope pm cd doc with defaults := dV, kwdefaults := kV } → s₁.heap.CodeRec cd d.name → Dflts mg s₁.heap d.params kwd dV kV → mg d.name = some (.ref a) → s₁.gens = #[] →
    ∀ (args : List WData) (vals : List Value) (as : List Addr), r.claim.pre args = true → WData.layableAll args = true → ReadsAllW r.records (classAt s₀.heap) s₁.heap vals args as → WellAll w.params s₁.heap vals args → (∀ a ∈ as, (a == sysModules) = false) →
      wpX (model r.prog w) callerA (PySem.call (.ref a) vals) (fun v s' => GoodWG r.claim (classAt s₀.heap) (ExcName.means s₀.heap) args s₁ (.ok (.ret v)) s')
        (fun e s' => GoodWG r.claim (classAt s₀.heap) (ExcName.means s₀.heap) args s₁ (.error e) s') s₁
abbrev LeftX (p q : Program) (loose : List Str) (Xt : Shared → Bool) {α : Type} (Yf : Shared → α) (Ya : World → α) (N : Nat) : Prop := LeftO p q loose Xt Yf Ya N true
theorem PySem.W.holds_open {r : OpenRow} {q : Program} {loose : List Str} {Xt : Shared → Bool} {XP : (Str → Option Value) → Heap → Prop} {α : Type} {Yf : Shared → α} {Ya : World → α} {YP : World → Heap → Prop} {d : DefRec} {kwd : List (Str × Expr)} {N : Nat}
    (left : LeftX r.prog q loose Xt Yf Ya N) (hY : ∀ w s, Yf s = Ya w → YP w s.heap) (hYk : ∀ w h h', YP w h → (∀ b o, h.get? b = some o → h'.get? b = some o) → YP w h')
    (hX : ∀ s, Xt s = true → XP (s.heap.nsMap mainGlobals) s.heap) (hXk : ∀ mg h h', XP mg h → (∀ b o, h.get? b = some o → h'.get? b = some o) → XP mg h')
    (hdef : defOf q r.name = some (d, kwd)) (hp : r.prog.theDef r.name = some (d.params, d.body, d.scope)) (hk : kwWritten? d.params.kwonlyargs d.params.kw_defaults = some kwd) (hRf : ∀ s, Xt s = true → RecFacts r.records s.heap) (hwr : (!r.writes || r.records.isEmpty) = true)
    (k1 : r.wellSaid = true) (ok : (chainsOk q && opensWell r.prog && (frees r.toRowW && r.within.isEmpty)) = true) (hb : r.prog.bare) (hw : r.toRowW.promised)
    (call : WalkX q loose XP YP r.toRowW d kwd) : r.Holds := by
  obtain ⟨ok1, k5⟩ := Bool.and_eq_true_iff.mp ok
  obtain ⟨hch, o1⟩ := Bool.and_eq_true_iff.mp ok1
  obtain ⟨k5, k6⟩ := Bool.and_eq_true_iff.mp k5
  obtain ⟨hsame, hu, ha, hap, hm⟩ := frees_parts k5
  have hi := ident_freeW hu ha hap
  have hwi : r.toRowW.claim.within = [] := List.isEmpty_iff.mp k6
  refine ⟨k1, hw, ⟨hb, o1, by show r.makers.map _ = []; rw [hm]; rfl⟩, hw.witness, fun w => ?_⟩
  have bh := LeftO.behind (g0 := true) left (XP := fun mg h => XP mg h ∧ RecFacts r.records h) (fun s hs => ⟨hX s hs, hRf s hs⟩) hch w
  refine ⟨bh.1, fun s' hs' => ?_⟩
  obtain ⟨s₀, hf, hg0, s, hT, hz, hgens, hg, G00, y⟩ := bh.2 s' hs'
  have G0 : Ground q loose [] XP w s (s.heap.nsMap mainGlobals) (s.heap.nsMap builtinsNs) s.heap := ⟨G00.T, G00.B, G00.D, G00.TE, G00.TD, G00.W, G00.X.1, G00.cls, G00.has, G00.apart, G00.once, G00.K⟩
  have RF := G00.X.2
  refine ⟨s₀, hf, hg0, s, hT, fun n hn => ?_, RF.1, RF.2.1, ?_⟩
  · obtain rfl : n = r.name := by split at hn <;> simp_all
    exact pinned_of_view hg G0 hdef hp hk
  have hgens : s.gens = #[] := Array.eq_empty_of_size_eq_zero (beq_iff_eq.mp hgens)
  have G : Ground q loose r.records XP w s _ _ s.heap := RF.ground G0
  intro args hpre hlay ord hord
  obtain ⟨⟨vs, s₁⟩, hlaid⟩ := Option.isSome_iff_exists.mp (layAllW_isSome (P := w.params) (ord := ord) G.has args r.args s (pre_splitW hpre).1)
  have keeps := layAllW_keeps _ _ _ hlaid
  have hal := layAllW_rest _ _ _ hlaid
  obtain ⟨as, hrd, hin, hold⟩ := reads_layAllW hord _ _ _ hlaid hlay s₁.heap (fun _ _ e => e)
  have L : Laid r.records w s s₁ args vs as := ⟨⟨ord, hord, hlaid⟩, hrd, hin, hold, keeps, hal.1.trans hgens, hal.2.2.1⟩
  have G₁ := G.keeps hXk keeps
  obtain ⟨a, o, pm, cd, doc, dV, kV, h1, h2, h3, h4, h5⟩ := G₁.fn hdef
  have hcall := call w s s₁ _ _ G₁ (hYk _ _ _ (hY w s y) keeps) a o pm cd doc dV kV h2 h3 h4 h5 (defOf_name hdef ▸ h1) L.gens args vs as hpre hlay L.reads L.well (L.low G.low)
  have hlifeX : s₁.asleep := Shared.asleep_of_life hal.2.2.2 hz
  have hend : ∀ (x : Result) (z : Shared), GoodWG r.toRowW.claim (classAt s.heap) (ExcName.means s.heap) args s₁ x z →
      (r.toRowW.claim.Ends s args vs s₁ x z ∧ z.os = s.os ∧ (r.writes = true → namesKept r.prog r.keeps s.heap z.heap ∧ ∀ x ∈ r.records, ∀ a, classAt s.heap x.1 = some a → recordClass z.heap a x.1 (x.2.map (·.1)) = true)) ∧ leftWithCleanup z.gens = false := fun x z g => by
    have e := g.laid (c := r.toRowW.claim) hsame hwi hi L
    exact ⟨⟨e.1, e.2.1, fun q => ⟨namesKept_of hT hg r.keeps keeps g.2.1.old, noTable hwr q⟩⟩, leftWithCleanup_false_of_bare e.2.2⟩
  obtain ⟨n, x, z₁, z₂, hs, hn, hfo, hR⟩ := wp_halts_full (M := model r.prog w) hlifeX
    (wp_of_wpX (R := fun x z => (r.toRowW.claim.Ends s args vs s₁ x z ∧ z.os = s.os ∧ (r.writes = true → namesKept r.prog r.keeps s.heap z.heap ∧ ∀ x ∈ r.records, ∀ a, classAt s.heap x.1 = some a → recordClass z.heap a x.1 (x.2.map (·.1)) = true)) ∧ leftWithCleanup z.gens = false)
      (t := do match ← nsGet mainNs r.name with
        | some f => do ret (← PySem.call f vs)
        | none => unsupported "claim.caller:no-such-global")
      (wpX_bindA (wpAny_nsGet G₁.T.g (by
        rw [h1]
        exact wpX_bind (wpX_mono hcall (fun v z g => wpX_pure ⟨_, rfl, hend _ _ g⟩) fun e z g => hend _ _ g)))) default)
  obtain ⟨eh, _, _, eo, _⟩ := Shared.forget_eq hfo
  obtain ⟨hc, hos, hkp⟩ := hR
  have hcase := hc.congr eh
  have hlife := (runN_life _ _ _ hn).trans hal.2.2.2
  refine ⟨vs, s₁, hlaid, n, _, z₂, hs, ?_, (fun _ i x hx => by rw [hgens] at hx; simp at hx), fun q => by rw [eh]; exact hkp q, by rw [hlife], Shared.rest_eq (eo.trans hos)⟩
  rcases hcase with ⟨v, rfl, d1, d2, d3, d4, d5⟩ | ⟨e, ob, cls, rfl, d1, d2, d3, d4, d5⟩
  · exact .inl ⟨v, rfl, d1, d2, d3, fun b o y _ => d4 b o y, d5⟩
  · exact .inr ⟨e, ob, cls, rfl, d1, d2, d3, d4, fun b o y _ => d5 b o y⟩
end Mine
end
section
open PySem PySem.W PyProof.Rows
namespace Mine
set_option maxRecDepth 100000 in
set_option maxHeartbeats 8000000 in
open_top hd for PySem.Challenge.rw_wf0044_03
end Mine
end
open PySem PySem.W PyProof.Rows in
theorem Mine.topOff : True := by
  w_top off
  exact trivial

section
open PySem PySem.W PyProof.Rows PySem.Calls
set_option maxRecDepth 100000
namespace Mine
local macro_rules | `(tactic| k_all) => `(tactic| assumption)
local macro_rules | `(tactic| walk_at "setItem ref int") => `(tactic| (k_here; (with_reducible show wpAny _ _ (setItem (Value.ref _) (Value.int _ _) (Value.int _ _)) _ _ _); k_dflt (refine' setItem_baK ?k1 ?k2 ?k3 ?k5 ?k6 ?_; (case k1 => k_asm); (case k2 => k_asm); (case k3 => k_upd)); (case k5 => (show _; omega)); (case k6 => exact byte_rng _); k_whole; intro h' F' N'; (try k_sweep)))
local macro_rules | `(tactic| walk_at "subscriptTail") => `(tactic| (k_here; (with_reducible show wpAny _ _ (subscriptTail _ _ (Value.bytes _ _) (Value.int _ _)) _ _ _); (refine item_bK (by omega) (by omega) ?_)))
local macro_rules | `(tactic| walk_at "pyIter ref") => `(tactic| (k_here; refine Stop.mk ?_))
set_option maxHeartbeats 8000000 in
theorem bs_spec (w : World) (loose mean mg mb) (T : Led) (b : Array UInt8) (width : Int) (t1 t2 : Tok) (hb : 0 < b.size ∧ b.size < 1000) (hw : 0 < width ∧ width < 1000) (q : Nat) (hq : (b.size : Int) = q * width) :
   SpecX PySem.Challenge.pw_wf0044_03 w (Mine.hd.heap_39 w.params) topProg loose mean mg mb 5 20 77 [.bytes b t1, .int width t2] T (fun v new => ∃ t, v = .bytes (bswOut b width.toNat q) t ∧ new = []) := by
  unfold SpecX
  intro dp un gd cn cs a ccd cl outer A₀ base h₀ L m s Q E B F X N Tp hk hd hu hret
  refine wpX_call ?_
  have hk0 : (PySem.Challenge.rw_wf0044_03 = PySem.Challenge.rw_wf0044_03 ∧ Mine.hd.heap_39 = Mine.hd.heap_39) := by (k_fill; exact ⟨rfl, rfl⟩)
  clear hk0
  refine' code_defX ?k1 ?k2 ?k3 ?k4 ?k5 ?kA ?kF ?kK ?k6 ?k7 ?k8 ?k9 ?kB ?_ ?c2 ?c3 ?c4 ?c5
  case kA => exact rfl
  case kF => exact rfl
  case kK => assumption
  case k1 => k_asm
  case k2 => k_asm
  case k3 => k_asm
  case k4 => k_asm
  case k5 => k_asm
  case k6 => k_dflt k_is
  case k7 => k_dflt k_is
  case k8 => ktr_room
  case k9 => exact BindsTo.of_eq rfl
  case c5 => decide
  case kB => exact locs rfl
  case c2 => exact rfl
  case c3 => exact rfl
  case c4 => exact rfl
  intro g' L' h' FG' F' N' B' X' T'
  (try dsimp only)
  refine wpX_execs_cons (wpX_Assign_Name (wpX_Call ?_))
  k_steps
  refine callWithX_type1 ?_
  k_steps
  refine ba_call rfl (by omega) (by omega) ?_
  intro d h2 tk2 hd2 hk2 ho2
  (rename Fr _ _ _ _ => F2)
  (rename News _ _ _ _ => N2)
  have F3 := F2.grownK hk2
  have hlt : L' < d := Nat.lt_of_lt_of_le F2.ns.lt hd2
  have N3 : News g' L' h2 ((d, baObj (Array.replicate (b.size : Int).toNat 0)) :: T) := fun p hp => by
    rcases List.mem_cons.mp hp with rfl | hp
    · exact ⟨ho2, Nat.ne_of_gt hlt, Heap.get?_none_of_le (Nat.le_trans F2.above (Nat.le_of_lt hlt))⟩
    · exact ⟨hk2 _ _ (N2 p hp).1, (N2 p hp).2⟩
  have lT : ∀ p ∈ T, p.1 < d := fun p hp => Nat.lt_of_lt_of_le (Heap.lt_size (N2 p hp).1) hd2
  clear F2 N2
  k_steps
  refine wpX_of_any ?_
  k_steps
  refine Stop.in ?_
  refine iter_rangeD [Str.ofString "i", Str.ofString "j"] (fun i o => o = baObj (bswOut b width.toNat i)) rfl (by assumption) ?_ (n := q) ?_ (by assumption) (by assumption) ?_ ?_ ?_
  · exact range_small' ⟨by omega, by omega⟩ ⟨by omega, by omega⟩ ⟨by omega, by omega⟩
  · exact range_size' (by omega) hq
  · exact bsw0
  · intro I i t' u o h3 tk3 it hi ho hdI hTI hTI2 hdI2 hic F3 N3
    subst ho
    obtain ⟨iv, hiv⟩ : ∃ iv : Int, iv = 0 + (i : Int) * width := ⟨_, rfl⟩
    have hiv0 : 0 ≤ iv := by rw [hiv, Int.zero_add]; exact Int.mul_nonneg (by omega) (by omega)
    have hiv1 : iv + width ≤ b.size := by
      rw [hiv, hq, Int.zero_add]
      have : ((i : Int) + 1) * width ≤ q * width := Int.mul_le_mul_of_nonneg_right (by omega) (by omega)
      rw [Int.add_mul, Int.one_mul] at this
      exact this
    have hivN : iv = ((i * width.toNat : Nat) : Int) := by
      rw [hiv, Int.natCast_mul, Int.toNat_of_nonneg (by omega), Int.zero_add]
    rw [← hiv] at F3
    have hTd : ∀ p ∈ T, p.1 ≠ d := fun p hp => Nat.ne_of_lt (lT p hp)
    have hsz := bswOut_size b width.toNat i
    clear hiv
    k_steps
    refine Stop.in ?_
    (rename News _ _ _ _ => N4)
    refine iter_rangeD [Str.ofString "j"] (fun j o => o = baObj (bswIn b width.toNat i (bswOut b width.toNat i) j)) rfl (by assumption) (range_small' ⟨by omega, by omega⟩ ⟨by omega, by omega⟩ ⟨by omega, by omega⟩) (n := width.toNat) (range_size1 (by omega)) (by assumption) (news_swap N4) rfl ?_ ?_
    · intro I2 j t2 u2 o2 h4 tk4 it2 hj ho2 hdI3 hTI3 hTI4 hdI4 hic2 F5 N5
      subst ho2
      have hT2 : ∀ p ∈ (I, it) :: T, p.1 ≠ d := fun p hp => by
        rcases List.mem_cons.mp hp with rfl | hp
        · exact Ne.symm hdI
        · exact hTd p hp
      have hsz2 := bswIn_size b width.toNat i (bswOut b width.toNat i) j
      have hjw : (j : Int) < width := by omega
      k_steps
      refine TurnD.fin (by assumption) (by assumption) ?_ ?_
      · repeat (first | exact map_base | refine map_peel (by decide) ?_)
      · rw [bswIn]
        have e1 : (iv + width - 1 - (0 + (j : Int) * 1)).toNat = i * width.toNat + width.toNat - 1 - j := by omega
        have e2 : (iv + (0 + (j : Int) * 1)).toNat = i * width.toNat + j := by omega
        rw [e1, e2]
        simp
    · intro u2 o2 h4 tk4 ho2 F5 N5
      subst ho2
      k_steps
      refine TurnD.fin (by assumption) (news_swap (by assumption)) ?_ ?_
      · repeat (first | exact map_base | refine map_inner (by decide) ?_ | refine map_peel (by decide) ?_)
      · rfl
  · intro u o h3 tk3 ho F3 N3
    subst ho
    have hsz := bswOut_size b width.toNat q
    k_steps
    refine bytes_baK rfl (by assumption) (by assumption) (.head _) (by omega) fun t tk => ?_
    k_steps
    (rename News _ _ _ _ => Nl)
    exact hret0 hret (by assumption) (fun p hp => Nl p (.tail _ hp)) ⟨_, rfl, rfl⟩
end Mine
end
section
open PySem PySem.W PyProof.Rows PySem.Calls
open PyProof.Rows.LCg
set_option maxRecDepth 100000
namespace Mine
local macro_rules | `(tactic| k_mem) => `(tactic| first | assumption | (apply List.Mem.tail; k_mem))
local macro_rules | `(tactic| walk_at "eval ListComp") => `(tactic| (k_here; refine Stop.mk ?_))
local macro_rules | `(tactic| walk_at "pyIter bytes") => `(tactic| (k_here; refine Stop.mk ?_))
local macro_rules | `(tactic| walk_at "CompEnd") => `(tactic| (refine Stop.mk ?_))
local macro_rules | `(tactic| walk_at "call type:bytes") => `(tactic| (k_here; (with_reducible show wpAny _ _ (call (Value.type "bytes") [Value.ref _]) _ _ _); refine Stop.mk ?_))
set_option maxHeartbeats 8000000 in
theorem exch_spec (w : World) (loose mean mg mb) (T : Led) (b : Array UInt8) (t1 : Tok) (hb : 0 < b.size ∧ b.size < 1000) (hc : ∀ c ∈ PySem.W.KBw.bInts b, c ≤ 3) :
   SpecX PySem.Challenge.pw_wf0044_03 w (Mine.hd.heap_39 w.params) topProg loose mean mg mb 15 60 82 [.bytes b t1] T (fun v new => ∃ b' t, v = .bytes b' t ∧ PySem.W.KBw.bInts b' = exchI (PySem.W.KBw.bInts b) ∧ new = []) := by
  unfold SpecX
  intro dp un gd cn cs a ccd cl outer A₀ base h₀ L m s Q E B F X N Tp hk hd hu hret
  refine wpX_call ?_
  have hk0 : (PySem.Challenge.rw_wf0044_03 = PySem.Challenge.rw_wf0044_03 ∧ Mine.hd.heap_39 = Mine.hd.heap_39) := by (k_fill; exact ⟨rfl, rfl⟩)
  clear hk0
  refine' code_defX ?k1 ?k2 ?k3 ?k4 ?k5 ?kA ?kF ?kK ?k6 ?k7 ?k8 ?k9 ?kB ?_ ?c2 ?c3 ?c4 ?c5
  case kA => exact rfl
  case kF => exact rfl
  case kK => assumption
  case k1 => k_asm
  case k2 => k_asm
  case k3 => k_asm
  case k4 => k_asm
  case k5 => k_asm
  case k6 => k_dflt k_is
  case k7 => k_dflt k_is
  case k8 => ktr_room
  case k9 => exact BindsTo.of_eq rfl
  case c5 => decide
  case kB => exact locs rfl
  case c2 => exact rfl
  case c3 => exact rfl
  case c4 => exact rfl
  intro g' L' h' FG' F' N' B' X' T'
  (try dsimp only)
  (try k_lift B')
  (try k_fold)
  refine wpX_execs_cons (wpX_Assign_Name (wpX_Call ?_))
  k_steps
  refine callWithX_K (K := Mine.hd.heap_39 w.params) ?_ ?_
  · k_dflt k_is
  k_steps
  k_dflt (refine' specX_use (bs_spec w loose mean mg mb _ b (b.size : Int) _ _ ⟨hb.1, hb.2⟩ ⟨by omega, by omega⟩ 1 (by omega)) ?k1 ?k2 ?k3 ?k4 ?k5 ?kK ?kd ?ku ?_; (case k1 => k_asm); (case k2 => k_asm); (case k3 => k_asm); (case k4 => k_asm); (case k5 => k_asm); (case kK => exact rfl))
  case kd => ktr_room
  case ku => ktr_units
  rintro rv new h4 tk4 F4 N4 l4 ⟨t4, rfl, rfl⟩
  rw [Int.toNat_natCast, bsw_all]
  k_steps
  refine wpX_of_any ?_
  have hz : b.reverse.size ≤ 1000000 := by rw [Array.size_reverse]; omega
  k_steps
  refine Stop.in ?_
  k_dflt (refine ListComp_W (by k_asm) (by rfl) (by decide) (by rfl) (by decide) (by rfl) ?_)
  k_steps
  refine Stop.in ?_
  refine blk_bytes rfl (by k_asm) (by k_asm) hz fun gh => ?_
  refine comp_ints (fun j => 3 - (PySem.W.KBw.bInts b.reverse).getD j 0) ?_ ?_
  · intro j v ys I2 oI C oC D2 m₂ h2 tk2 E' hj hP hC hx2 F6 N6 off6 ne6
    obtain ⟨c, u, hbc, rfl⟩ := hP
    have hg := bInts_at hbc
    k_steps
    refine Stop.in ?_
    exact CompEnd.fin0 (by assumption) (by assumption) off6 trivial (by rw [hg])
  · intro ys hys
    unfold FinE
    intro D3 h3 tk3 F3 N3 o3
    rw [← PySem.W.KBw.ints_length, range_getD (g := fun c => 3 - c)] at hys
    k_steps
    refine Stop.in ?_
    have hl : (PySem.W.KBw.bInts b.reverse) = (PySem.W.KBw.bInts b).reverse := bInts_reverse
    rw [hl] at hys
    refine bytesL_K rfl (by assumption) (by assumption) (List.Mem.head _) hys ?_ (by rw [hys.length, List.length_map, List.length_reverse, PySem.W.KBw.ints_length]; omega) fun b' t5 h5 tk5 hb' _ F5 N5 => ?_
    · intro n hn
      obtain ⟨c, hcm, rfl⟩ := List.mem_map.mp hn
      have h1 := hc c (List.mem_reverse.mp hcm)
      have h2 := PySem.W.KBw.ints_in (List.mem_reverse.mp hcm)
      omega
    k_steps
    rename Fr h₀ L _ _ => FZ
    rename News h₀ L _ _ => NZ
    exact hret _ [] _ _ FZ (news_sub NZ fun _ h => .tail _ h) (fun _ _ _ h => nomatch h) ⟨b', t5, rfl, hb', rfl⟩
end Mine
end
section
open PySem PySem.W PyProof.Rows PySem.Calls
open PyProof.Rows.LCg
set_option maxRecDepth 100000
namespace Mine
local macro_rules | `(tactic| walk_at "none") => `(tactic| fail)
noncomputable def creaseStep (ks : List Int) (s : Int) : List Int := ks ++ [s] ++ exchI ks ++ [3 - s] ++ ks
noncomputable def rowAt (sa : Int) (ss : List Int) (i : Nat) : List Int := (ss.take i).foldl creaseStep [sa, 3 - sa]
theorem rowAt_succ {sa : Int} {ss : List Int} {i : Nat} {s : Int} (h : ss[i]? = some s) : rowAt sa ss (i + 1) = creaseStep (rowAt sa ss i) s := by
  unfold rowAt
  rw [List.take_add_one, h, Option.toList_some, List.foldl_append]; rfl
theorem crease_rng {ks : List Int} {s : Int} (h : ∀ c ∈ ks, 1 ≤ c ∧ c ≤ 2) (hs : 1 ≤ s ∧ s ≤ 2) : ∀ c ∈ creaseStep ks s, 1 ≤ c ∧ c ≤ 2 := by
  intro c hc
  unfold creaseStep exchI at hc
  simp only [List.mem_append, List.mem_cons, List.not_mem_nil, or_false, List.mem_map, List.mem_reverse] at hc
  rcases hc with (((hc | hc) | ⟨d, hd, rfl⟩) | hc) | hc
  · exact h c hc
  · omega
  · have := h d hd; omega
  · omega
  · exact h c hc
theorem rowAt_rng {sa : Int} {ss : List Int} (ha : 1 ≤ sa ∧ sa ≤ 2) (hs : ∀ s ∈ ss, 1 ≤ s ∧ s ≤ 2) : ∀ i, ∀ c ∈ rowAt sa ss i, 1 ≤ c ∧ c ≤ 2
  | 0 => by
    intro c hc
    simp only [rowAt, List.take_zero, List.foldl_nil, List.mem_cons, List.not_mem_nil, or_false] at hc
    omega
  | i + 1 => by
    have ih := rowAt_rng (i := i) ha hs
    cases e : ss[i]? with
    | none =>
      have : rowAt sa ss (i + 1) = rowAt sa ss i := by unfold rowAt; rw [List.take_add_one, e]; simp
      rw [this]; exact ih
    | some s => rw [rowAt_succ e]; exact crease_rng ih (hs s (List.mem_of_getElem? e))
theorem rowAt_len {sa : Int} {ss : List Int} : ∀ i, (rowAt sa ss i).length ≤ 3 ^ (i + 1) - 1
  | 0 => by simp [rowAt]
  | i + 1 => by
    have ih := rowAt_len (sa := sa) (ss := ss) i
    have h3 : 3 ^ (i + 1 + 1) = 3 * 3 ^ (i + 1) := by rw [Nat.pow_succ]; omega
    have h1 : 0 < 3 ^ (i + 1) := Nat.pow_pos (by decide)
    cases e : ss[i]? with
    | none =>
      have : rowAt sa ss (i + 1) = rowAt sa ss i := by unfold rowAt; rw [List.take_add_one, e]; simp
      rw [this]; omega
    | some s =>
      rw [rowAt_succ e, creaseStep, exchI]
      simp only [List.length_append, List.length_cons, List.length_nil, List.length_map, List.length_reverse]
      omega
theorem rowAt_pos {sa : Int} {ss : List Int} : ∀ i, 0 < (rowAt sa ss i).length
  | 0 => by simp [rowAt]
  | i + 1 => by
    cases e : ss[i]? with
    | none =>
      have : rowAt sa ss (i + 1) = rowAt sa ss i := by unfold rowAt; rw [List.take_add_one, e]; simp
      rw [this]; exact rowAt_pos i
    | some s => rw [rowAt_succ e, creaseStep]; simp only [List.length_append, List.length_cons]; omega
local macro_rules | `(tactic| k_mem) => `(tactic| first | assumption | (apply List.Mem.tail; k_mem))
local macro_rules | `(tactic| walk_at "subscriptTail") => `(tactic| (k_here; (with_reducible show wpAny _ _ (subscriptTail _ _ (Value.ref _) (Value.int _ _)) _ _ _); k_dflt (refine' item_lK ?k1 ?k2 ?k3 ?k4 ?_ ?k5; (case k1 => k_asm); (case k2 => k_mem); (case k3 => decide); (case k4 => rfl); (case k5 => with_unfolding_all rfl); k_whole)))
local macro_rules | `(tactic| walk_at "call type:bytes") => `(tactic| (k_here; (with_reducible show wpAny _ _ (call (Value.type "bytes") [Value.ref _]) _ _ _); k_dflt (refine' bytesL_K ?k0 ?k1 ?k2 ?k3 ?k4 ?k5 ?k6 ?_; (case k0 => exact rfl); (case k1 => k_asm); (case k2 => k_asm); (case k3 => k_mem); (case k4 => first | exact IntsAre.cons _ _ IntsAre.nil | exact IntsAre.cons _ _ (IntsAre.cons _ _ IntsAre.nil)); (case k5 => (intro n' hn'; simp only [List.mem_cons, List.not_mem_nil, or_false] at hn'; omega)); (case k6 => exact Nat.le_of_ble_eq_true rfl); k_whole); intro b' t' h' tk' hb' hz' F' N'; (try simp only [List.length_cons, List.length_nil] at hz')))
local macro_rules | `(tactic| walk_at "binaryOp Add bytes bytes") => `(tactic| (k_here; (with_reducible show wpAny _ _ (binaryOp Operator.Add (Value.bytes _ _) (Value.bytes _ _)) _ _ _); (refine addB_K (by omega) ?_); intro t' tk' hz'))
local macro_rules | `(tactic| walk_at "pyIter ref") => `(tactic| (k_here; refine Stop.mk ?_))
set_option maxHeartbeats 8000000 in
theorem creases_spec (w : World) (loose mean mg mb) (T : Led) (D1 : Addr) (k1 : Nat) (vs : List Value) (sa sb sc : Int) (h1 : (D1, listOf vs.toArray k1) ∈ T) (i1 : IntsAre vs [sa, sb, sc]) (hs : ∀ s ∈ [sa, sb, sc], 1 ≤ s ∧ s ≤ 2) :
   SpecX PySem.Challenge.pw_wf0044_03 w (Mine.hd.heap_39 w.params) topProg loose mean mg mb 30 160 89 [.ref D1] T (fun v new => ∃ b t, v = .bytes b t ∧ PySem.W.KBw.bInts b = rowAt sa [sb, sc] 2 ∧ new = []) := by
  have ha : 1 ≤ sa ∧ sa ≤ 2 := hs _ (.head _)
  unfold SpecX
  intro dp un gd cn cs a ccd cl outer A₀ base h₀ L m s Q E B F X N Tp hk hd hu hret
  refine wpX_call ?_
  have hk0 : (PySem.Challenge.rw_wf0044_03 = PySem.Challenge.rw_wf0044_03 ∧ Mine.hd.heap_39 = Mine.hd.heap_39) := by (k_fill; exact ⟨rfl, rfl⟩)
  clear hk0
  cases i1 with | cons _ ta i1 => cases i1 with | cons _ tb i1 => cases i1 with | cons _ tc i1 => cases i1 with | nil =>
  refine' code_defX ?k1 ?k2 ?k3 ?k4 ?k5 ?kA ?kF ?kK ?k6 ?k7 ?k8 ?k9 ?kB ?_ ?c2 ?c3 ?c4 ?c5
  case kA => exact rfl
  case kF => exact rfl
  case kK => assumption
  case k1 => k_asm
  case k2 => k_asm
  case k3 => k_asm
  case k4 => k_asm
  case k5 => k_asm
  case k6 => k_dflt k_is
  case k7 => k_dflt k_is
  case k8 => ktr_room
  case k9 => exact BindsTo.of_eq rfl
  case c5 => decide
  case kB => exact locs rfl
  case c2 => exact rfl
  case c3 => exact rfl
  case c4 => exact rfl
  intro g' L' h' FG' F' N' B' X' T'
  (try dsimp only)
  (try k_lift B')
  (try k_fold)
  refine wpX_execs_cons (wpX_of_any ?_)
  k_steps
  rename PySem.W.KBw.bInts _ = _ => hrow
  refine wpX_execs_cons (wpX_For ?_)
  k_steps
  refine Stop.in ?_
  (rename News _ _ _ _ => Nn)
  (rename Fr _ _ _ _ => FF)
  refine with_fr FF fun m0 hm0 F0 => ?_
  refine with_ledger Nn fun NL hNL NB => ?_
  refine forX_list (vs := [.int sb tb, .int sc tc]) (k := 0) (J := fun i m led => ∃ u row tr, m = (fun z => if z = Str.ofString "row" then some (.bytes row tr) else mapD [Str.ofString "row", Str.ofString "sign"] u m0 z) ∧ led = NL ∧ PySem.W.KBw.bInts row = rowAt sa [sb, sc] i)
    rfl (by rw [hNL]; exact .head _) ?_ rfl rfl F0 NB ?_ ?_ ?_
  · rintro i m led ⟨u, row, tr, rfl, rfl, _⟩
    rw [hNL]; exact .head _
  · subst hm0
    exact ⟨_, _, _, map_one rfl map_self, rfl, hrow⟩
  · subst hm0
    rintro I i v m1 led h tk it hv ⟨u, row, tr, rfl, rfl, hr⟩ hoI FT NT
    have hss : ∀ s ∈ [sb, sc], 1 ≤ s ∧ s ≤ 2 := fun s h => hs s (.tail _ h)
    obtain ⟨sg, tg, hsg, rfl⟩ : ∃ sg tg, [sb, sc][i]? = some sg ∧ v = .int sg tg := by
      rcases i with _ | _ | i
      · exact ⟨sb, tb, rfl, (Option.some.inj hv).symm⟩
      · exact ⟨sc, tc, rfl, (Option.some.inj hv).symm⟩
      · simp at hv
    have hi2 : i < 2 := (List.getElem?_eq_some_iff.mp hsg).1
    have hsr := hss sg (List.mem_of_getElem? hsg)
    have hrr := rowAt_rng ha hss i
    have hrl := rowAt_len (sa := sa) (ss := [sb, sc]) i
    have hrz := bInts_size hr
    have hrp : 3 ^ (i + 1) ≤ 3 ^ 2 := Nat.pow_le_pow_right (by decide) (by omega)
    have hr0 : 0 < row.size := by
      rw [hrz]
      exact rowAt_pos i
    refine wpX_execs_cons (wpX_Assign_Name (wpX_BinOp (wpX_BinOp (wpX_BinOp (wpX_of_any ?_)))))
    k_steps
    refine wpX_Call ?_
    k_steps
    refine callWithX_K (K := Mine.hd.heap_39 w.params) ?_ ?_
    · k_dflt k_is
    k_steps
    k_dflt (refine' specX_use (exch_spec w loose mean mg mb _ row _ ⟨hr0, by omega⟩ (fun c hc => by have := hrr c (hr ▸ hc); omega)) ?k1 ?k2 ?k3 ?k4 ?k5 ?kK ?kd ?ku ?_; (case k1 => k_asm); (case k2 => k_asm); (case k3 => k_asm); (case k4 => k_asm); (case k5 => k_asm); (case kK => exact rfl))
    case kd => ktr_room
    case ku => ktr_units
    rintro rv new h4 tk4 F4 N4 l4 ⟨b4, t4, rfl, hb4, rfl⟩
    dsimp only at F4 N4
    rw [hr] at hb4
    have hz4 : b4.size = row.size := by rw [bInts_size hb4, exchI, List.length_map, List.length_reverse, hrz]
    k_steps
    refine wpX_of_any ?_
    k_steps
    refine wpX_of_any ?_
    k_steps
    refine wpX_of_any ?_
    k_steps
    rename Fr _ _ _ _ => FZ
    rename News _ _ _ _ => NZ
    refine TurnJ.fin FZ NZ led ?_ hoI ⟨_, _, _, map_one rfl (by repeat (first | exact map_base | refine map_peel (by decide) ?_)), rfl, ?_⟩
    · intro q hq
      exact .tail _ (.tail _ hq)
    · rw [rowAt_succ hsg, creaseStep]
      simp only [bInts_app, hr, hb4, ‹PySem.W.KBw.bInts _ = [sg]›, ‹PySem.W.KBw.bInts _ = [3 - sg]›]
  · subst hm0
    rintro m1 led h tk ⟨u, row, tr, rfl, rfl, hr⟩ FT NT
    refine wpX_of_any ?_
    k_steps
    rename Fr h₀ L _ _ => FZ
    rename News h₀ L _ _ => NZ
    exact hret _ [] _ _ FZ (news_sub NZ fun _ h => by rw [hNL]; exact .tail _ (.tail _ h)) (fun _ _ _ h => nomatch h) ⟨row, tr, rfl, hr, rfl⟩
end Mine
end
section
open PySem PySem.W PyProof.Rows PySem.Calls
open PyProof.Rows.LCg
set_option maxRecDepth 100000
namespace Mine
noncomputable def nearIn (sp : Int) : Nat → List Int
  | 0 => []
  | j + 1 => nearIn sp j ++ (if sp % 2 = 1 ∨ (j : Int) % 2 = 1 then [100 * sp + j] else [])
noncomputable def nearP : Nat → List Int
  | 0 => []
  | i + 1 => nearP i ++ nearIn (1 + (i : Int)) (1 + i)
theorem nearIn_len (sp : Int) : ∀ j, (nearIn sp j).length ≤ j
  | 0 => Nat.le_refl _
  | j + 1 => by
    have := nearIn_len sp j
    rw [nearIn, List.length_append]
    split <;> simp <;> omega
theorem nearP_len : ∀ i, (nearP i).length ≤ i * (i + 1)
  | 0 => Nat.le_refl _
  | i + 1 => by
    have h1 := nearP_len i
    have h2 := nearIn_len (1 + (i : Int)) (1 + i)
    rw [nearP, List.length_append]
    have : (i + 1) * (i + 1 + 1) = i * (i + 1) + (1 + i) + (1 + i) := by rw [Nat.add_mul, Nat.mul_add, Nat.mul_add]; omega
    omega
theorem near_put {ws : List Value} {l : List Int} {sp : Int} {i j : Nat} {x : Int} {t : Tok} (h : IntsAre ws (l ++ nearIn (1 + (i : Int)) j)) (hs : sp = 1 + (i : Int) * 1) (c : sp.fmod 2 = 1 ∨ (0 + (j : Int) * 1).fmod 2 = 1) (hx : x = 100 * sp + (0 + (j : Int) * 1)) :
    IntsAre (ws ++ [.int x t]) (l ++ nearIn (1 + (i : Int)) (j + 1)) := by
  rw [Int.fmod_eq_emod_of_nonneg _ (by omega), Int.fmod_eq_emod_of_nonneg _ (by omega)] at c
  rw [nearIn, if_pos (by omega), ← List.append_assoc, hx, show 100 * sp + (0 + (j : Int) * 1) = 100 * (1 + (i : Int)) + j from by omega]
  exact h.append (.cons _ _ .nil)
theorem near_not {ws : List Value} {l : List Int} {sp : Int} {i j : Nat} (h : IntsAre ws (l ++ nearIn (1 + (i : Int)) j)) (hs : sp = 1 + (i : Int) * 1) (c1 : ¬ sp.fmod 2 = 1) (c2 : ¬ (0 + (j : Int) * 1).fmod 2 = 1) :
    IntsAre ws (l ++ nearIn (1 + (i : Int)) (j + 1)) := by
  rw [Int.fmod_eq_emod_of_nonneg _ (by omega)] at c1 c2
  rw [nearIn, if_neg (by omega), List.append_nil]
  exact h
local macro_rules | `(tactic| k_mem) => `(tactic| first | assumption | (apply List.Mem.tail; k_mem))
local macro_rules | `(tactic| k_all) => `(tactic| first | assumption | (refine allNe_lt (by assumption) ?_; show @LE.le Nat _ _ _; omega))
local macro_rules | `(tactic| walk_at "pyIter ref") => `(tactic| (k_here; refine Stop.mk ?_))
local macro_rules | `(tactic| walk_at "exec For Name Call cons nil") => `(tactic| (k_here; k_dflt (refine For_J (by k_asm) (by rfl) (by rfl) ?_ (by with_unfolding_all passes_own))))
local macro_rules | `(tactic| walk_at "call builtin:list.append") => `(tactic| (k_here; (with_reducible show wpAny _ _ (call (Value.builtin _) [Value.ref _, _]) _ _ _); k_dflt (refine' append_lK ?k1 ?k2 ?k3 ?k4 ?_; (case k1 => k_asm); (case k2 => k_asm); (case k3 => k_upd); (case k4 => assumption); k_whole); intro h' F' N'; (try k_sweep)))
set_option maxHeartbeats 8000000 in
theorem near_spec (w : World) (loose mean mg mb) (T : Led) :
   SpecT PySem.Challenge.pw_wf0044_03 w (Mine.hd.heap_39 w.params) topProg loose mean mg mb 15 80 141 [] T (fun v T' => ∃ D ws k, v = .ref D ∧ T' = (D, listOf (List.toArray ws) k) :: T ∧ (∀ p ∈ T, p.1 ≠ D) ∧ IntsAre ws (nearP 5)) := by
  unfold SpecT
  intro dp un gd cn cs a ccd cl outer A₀ base h₀ L m s Q E B F X N Tp hk hd hu hret
  refine wpAny_call ?_
  have hk0 : (PySem.Challenge.rw_wf0044_03 = PySem.Challenge.rw_wf0044_03 ∧ Mine.hd.heap_39 = Mine.hd.heap_39) := by (k_fill; exact ⟨rfl, rfl⟩)
  clear hk0
  k_dflt ktr_enter
  k_steps
  refine Stop.in ?_
  (rename News _ _ _ _ => Nn)
  (rename Fr _ _ _ _ => FF)
  refine with_fr FF fun m0 hm0 F0 => ?_
  refine name1 Nn fun Ds hDs => ?_
  subst hDs
  have hT2 : ∀ p ∈ T, p.1 ≠ Ds := fun p hp => Nat.ne_of_lt (‹∀ p ∈ T, p.1 < Ds› p hp)
  refine iter_rangeJ (n := 5) (J := fun i m led => ∃ u ws k, m = mapD [Str.ofString "spread", Str.ofString "way"] u m0 ∧ led = (Ds, listOf (List.toArray ws) k) :: T ∧ IntsAre ws (nearP i))
     rfl (by assumption) (by decide) (by decide) F0 Nn ?_ ?_ ?_
  · subst hm0
    exact ⟨_, [], 0, mapD_self, rfl, .nil⟩
  · subst hm0
    rintro I i t' m1 led h tk it hi ⟨u, ws, k, rfl, rfl, hws⟩ hoI _ hic FT NT
    have n2 : @Ne Nat I Ds := Ne.symm (hoI (Ds, _) (.head _))
    obtain ⟨sp, hsp⟩ : ∃ sp : Int, sp = 1 + (i : Int) * 1 := ⟨_, rfl⟩
    rw [← hsp] at FT
    have hsb : 0 ≤ sp ∧ sp < 1000 := by omega
    have pk : Stop (i < 5 ∧ sp = 1 + (i : Int) * 1) := ⟨hi, hsp⟩
    clear hi hsp
    k_steps
    refine Stop.in ?_
    obtain ⟨hi, hsp⟩ := pk
    (rename News _ _ _ _ => N2)
    (rename Fr _ _ _ _ => FF2)
    refine with_fr FF2 fun m2 hm2 F2 => ?_
    refine iter_rangeJ (n := 1 + i) (J := fun j m led => ∃ u ws k, m = mapD [Str.ofString "way"] u m2 ∧ led = (Ds, listOf (List.toArray ws) k) :: (I, it) :: T ∧ IntsAre ws (nearP i ++ nearIn (1 + (i : Int)) j))
      rfl (by assumption) (range_small' ⟨by omega, by omega⟩ ⟨by omega, by omega⟩ ⟨by omega, by omega⟩) (range_size1 (by omega)) F2 (news_swap (news_sub N2 (fun q hq => by first | exact hq | exact .tail _ hq))) ?_ ?_ ?_
    · subst hm2
      exact ⟨_, ws, k, mapD_self, rfl, by rw [nearIn, List.append_nil]; exact hws⟩
    · subst hm2
      rintro I2 j t2 m3 led h2 tk2 it2 hj ⟨u2, ws2, k2, rfl, rfl, hws2⟩ hoI2 _ hic2 FT2 NT2
      have n4 : @Ne Nat I2 Ds := Ne.symm (hoI2 (Ds, _) (.head _))
      have hwz : ws2.length < 1000000 := by
        have h1 := nearP_len i
        have h2 := nearIn_len (1 + (i : Int)) j
        have h3 : i * (i + 1) ≤ 4 * 5 := Nat.mul_le_mul (by omega) (by omega)
        rw [hws2.length, List.length_append]
        omega
      k_steps
      all_goals (rename Fr _ _ _ _ => FZ; rename News _ _ _ _ => NZ)
      · exact TurnJ.fin0 FZ NZ (fun p hp => by
          rcases List.mem_cons.mp hp with rfl | hp
          · exact Ne.symm n4
          · exact hoI2 p (.tail _ hp)) ⟨_, _, _, mapD_of (by repeat (first | exact map_base | refine map_peel (by decide) ?_)), rfl, near_put hws2 hsp (.inl (by assumption)) rfl⟩
      · exact TurnJ.fin0 FZ NZ (fun p hp => by
          rcases List.mem_cons.mp hp with rfl | hp
          · exact Ne.symm n4
          · exact hoI2 p (.tail _ hp)) ⟨_, _, _, mapD_of (by repeat (first | exact map_base | refine map_peel (by decide) ?_)), rfl, near_put hws2 hsp (.inr (by assumption)) rfl⟩
      · exact TurnJ.fin0 FZ NZ hoI2 ⟨_, _, _, mapD_of (by repeat (first | exact map_base | refine map_peel (by decide) ?_)), rfl, near_not hws2 hsp (by assumption) (by assumption)⟩
    · subst hm2
      rintro m3 led h2 tk2 ⟨u2, ws2, k2, rfl, rfl, hws2⟩ FT2 NT2
      k_steps
      rename Fr _ _ _ _ => FZ
      rename News _ _ _ _ => NZ
      exact TurnJ.fin0 FZ (news_swap NZ) (fun p hp => by
          rcases List.mem_cons.mp hp with rfl | hp
          · exact Ne.symm n2
          · exact hoI p (.tail _ hp)) ⟨_, _, _, mapD_of (by repeat (first | exact map_base | refine map_inner (by decide) ?_ | refine map_peel (by decide) ?_)), rfl, by rw [nearP]; exact hws2⟩
  · subst hm0
    rintro m3 led h2 tk2 ⟨u2, ws2, k2, rfl, rfl, hws2⟩ FT2 NT2
    k_steps
    rename Fr h₀ L _ _ => FZ
    rename News h₀ L _ _ => NZ
    exact hret _ _ _ _ FZ NZ ⟨Ds, ws2, k2, rfl, rfl, hT2, hws2⟩
end Mine
end
section
open PySem PySem.W PyProof.Rows PySem.Calls
set_option maxRecDepth 100000
namespace Mine
local macro_rules | `(tactic| k_mem) => `(tactic| assumption)
local macro_rules | `(tactic| k_all) => `(tactic| first | assumption | (refine allNe_lt (by assumption) ?_; show @LE.le Nat _ _ _; omega))
local macro_rules | `(tactic| walk_at "call ref") => `(tactic| (k_here; refine Stop.mk ?_))
local macro_rules | `(tactic| walk_at "truthy ref") => `(tactic| (k_here; k_dflt (refine' truthy_lK ?k1 ?k2 ?k3 ?_; (case k1 => k_asm); (case k2 => k_mem)); (case k3 => (show _; omega)); k_whole))
local macro_rules | `(tactic| walk_at "call builtin:len") => `(tactic| (k_here; (with_reducible show wpAny _ _ (call (Value.builtin "len") [Value.ref _]) _ _ _); k_dflt (refine' len_lK ?k1 ?k2 ?k3 ?_; (case k1 => k_asm); (case k2 => k_mem)); (case k3 => (show _; omega)); k_whole; intro _))
local macro_rules | `(tactic| walk_at "binaryOp RShift int int") => `(tactic| (k_here; (with_reducible refine rshift1_K ?_)))
local macro_rules | `(tactic| walk_at "binaryOp Mult int int") => `(tactic| (k_here; refine mul_K (small_int (by omega)) (small_int (by omega)) ?_))
local macro_rules | `(tactic| walk_at "binaryOp LShift int int") => `(tactic| (k_here; refine lshift_K (by assumption) (by assumption) ?_))
set_option exponentiation.threshold 6000 in
set_option maxHeartbeats 8000000 in
theorem d2i_in (w : World) (loose mean mg mb) (T R : Led) (hT : (T = (51, tabObj #[]) :: R ∧ ∀ p ∈ R, p.1 ≠ 51) ∨ ∃ c0 oc0 vs0 t0, T = (51, tabObj #[rawInt 88, rawInt 4, .ref c0]) :: (c0, oc0) :: R ∧ oc0.data = .fields vs0 ∧ vs0[1]? = some (.str (Str.ofString "_digits2int.<locals>.inner") t0)) (l : Addr) (vs : List Value) (ds : List Int) (k : Nat) (n : Int) (t2 : Tok) (hl : (l, listOf vs.toArray k) ∈ R) (hi : IntsAre vs ds) (hlen : 0 < ds.length ∧ ds.length < 200) (hn : 0 < n ∧ n < 5000) (hdig : ∀ d ∈ ds, d.natAbs < 2 ^ 5000)
   :
   SpecT PySem.Challenge.pw_wf0044_03 w (Mine.hd.heap_39 w.params) topProg loose mean mg mb (ds.length + 10) (8 * ds.length + 80) 56 [.ref l, .int n t2] T (fun v T' => ∃ t A', v = .int (dnum n.toNat ds) t ∧ T' = A' ++ R ∧ TabOk 51 88 4 (Str.ofString "_digits2int.<locals>.inner") A') := by
  have hvl := hi.length
  unfold SpecT
  intro dp un gd cn cs a ccd cl outer A₀ base h₀ L m s Q E B F X N Tp hk hd hu hret
  refine wpAny_call ?_
  have hk0 : (PySem.Challenge.rw_wf0044_03 = PySem.Challenge.rw_wf0044_03 ∧ Mine.hd.heap_39 = Mine.hd.heap_39) := by (k_fill; exact ⟨rfl, rfl⟩)
  clear hk0
  rcases hT with ⟨rfl, hR⟩ | ⟨c0, oc0, vs0, t0, rfl, hoc0, hvs0⟩
  ·
      k_dflt (refine' code_defC ?k1 ?k2 ?k3 ?k4 ?k5 ?kA ?kF ?kK ?k6 ?k7 ?k8 ?k9 ?kB ?kD ?_ ?c2 ?c3 ?c4; (case kA => exact rfl); (case kF => exact rfl); (case kK => assumption); (case k1 => k_asm); (case k2 => k_asm); (case k3 => k_asm); (case k4 => k_asm); (case k5 => k_asm); (case k6 => k_is); (case k7 => k_is); (case k8 => ktr_room); (case k9 => exact BindsTo.of_eq rfl); (case kB => exact rfl); (case kD => decide +kernel); (case c2 => exact rfl); (case c3 => exact rfl); (case c4 => exact rfl); k_whole; intro g' L' h' tk' cells' FG' F' N' Y' B' X' T' l1; (try k_lt l1); k_cells Y'; (try simp only [List.cons_append, List.nil_append] at N'); (try dsimp only); (try k_lift B'); (try k_fold))
      obtain ⟨l51, lR⟩ := l1
      have C : CodeHd g' 55 51 := codeHd_of_K X' (by kernel_rfl)
      k_steps
      refine Stop.in ?_
      (rename News _ _ _ _ => Nn)
      refine with_call fun f hff => ?_
      subst hff
      refine with_ledger Nn fun Bl hBl NB => ?_
      have inner : ∀ (sz lo hi : Nat) (ta tb : Tok) (T2 : Led), hi - lo ≤ sz → lo < hi → hi ≤ ds.length → (∀ q ∈ Bl, q ∈ T2) →
          Spec PySem.Challenge.pw_wf0044_03 w (Mine.hd.heap_39 w.params) topProg loose mean mg mb (hi - lo + 3) (8 * (hi - lo) + 40) f [.int lo ta, .int hi tb] T2
            (fun v new => ∃ t, v = .int (dnum n.toNat (seg ds lo hi)) t ∧ new = []) := by
        intro sz
        induction sz with
        | zero => intro lo hi ta tb T2 h1 h2; omega
        | succ sz ih =>
          intro lo hi ta tb T2 h1 h2 h3 hsub
          have hm0 := hsub (_, _) (by rw [hBl]; exact List.Mem.head _)
          have hm1 := hsub (_, _) (by rw [hBl]; exact List.Mem.tail _ (List.Mem.head _))
          have hm2 := hsub (_, _) (by rw [hBl]; exact List.Mem.tail _ (List.Mem.tail _ (List.Mem.head _)))
          have hm3 := hsub (_, _) (by rw [hBl]; exact List.Mem.tail _ (List.Mem.tail _ (List.Mem.tail _ (List.Mem.head _))))
          have hm4 := hsub (_, _) (by rw [hBl]; exact List.Mem.tail _ (List.Mem.tail _ (List.Mem.tail _ (List.Mem.tail _ (List.Mem.head _)))))
          have hm5 := hsub (_, _) (by rw [hBl]; exact List.Mem.tail _ (List.Mem.tail _ (List.Mem.tail _ (List.Mem.tail _ (List.Mem.tail _ (List.Mem.head _))))))
          have hml := hsub _ (by rw [hBl]; exact List.Mem.tail _ (List.Mem.tail _ (List.Mem.tail _ (List.Mem.tail _ (List.Mem.tail _ (List.Mem.tail _ (hl)))))))
          unfold Spec
          intro dp2 un2 gd2 cn2 cs2 a2 ccd2 cl2 outer2 A2 base2 h20 L2 m2 s2 Q2 E2 B2 F2 X2 N2 Tp2 hk2 hd2 hu2 hret2
          refine wpAny_call ?_
          k_dflt (refine' code_nest ?k1 ?k2 ?k3 ?k4 ?k5 ?kA ?kF ?kK ?k6 ?k7 ?k8 ?k9 ?kB ?_ ?c2 ?c3 ?c4 ?c5; (case kA => exact rfl); (case kF => exact rfl); (case kK => assumption); (case k1 => k_asm); (case k2 => k_asm); (case k3 => k_asm); (case k4 => k_asm); (case k5 => k_asm); (case k6 => k_mem); (case k7 => exact codeRec_news (by k_asm) (by k_mem) (by assumption) (by assumption)); (case k8 => ktr_room); (case k9 => exact BindsTo.of_eq rfl); (case c5 => decide); (case kB => exact locs rfl); (case c2 => exact rfl); (case c3 => exact rfl); (case c4 => exact rfl); k_whole; intro g3 L3 h3 FG3 F3 N3 B3 X3 T3; (try dsimp only); (try k_lift B3); (try k_fold))
          have hmid : ((lo : Int) + hi) / 2 = (((lo + hi) / 2 : Nat) : Int) := by omega
          obtain ⟨mid, hmd⟩ : ∃ mid, mid = (lo + hi) / 2 := ⟨_, rfl⟩
          rw [← hmd] at hmid
          k_steps
          · have e : hi = lo + 1 := by omega
            subst e
            exact hret0 hret2 (by assumption) (by assumption) ⟨_, congrArg (fun z => Value.int z _) (dnum_one n.toNat (by omega)).symm, rfl⟩
          · refine Stop.in ?_
            rw [hmid]
            k_dflt (refine' spec_use (ih mid hi _ _ T2 (by omega) (by omega) (by omega) hsub) ?k1 ?k2 ?k3 ?k4 ?k5 ?kK ?kd ?ku ?_; (case k1 => k_asm); (case k2 => k_asm); (case k3 => k_asm); (case k4 => k_asm); (case k5 => k_asm); (case kK => exact rfl))
            case kd => ktr_room
            case ku => ktr_units
            rintro r new h4 tk4 F4 N4 _ ⟨t4, rfl, rfl⟩
            have hS : Small (dnum n.toNat (seg ds mid hi)) := dnum_seg_small (by omega) hlen.2 hdig
            have hsh : 0 ≤ (((lo : Int) + hi) / 2 - lo) * n ∧ (((lo : Int) + hi) / 2 - lo) * n ≤ 10000000 := shift_rng ⟨by omega, by omega⟩ hn
            replace N4 : News g3 L3 h4 T2 := N4
            k_steps
            refine Stop.in ?_
            rw [hmid]
            k_dflt (refine' spec_use (ih lo mid _ _ T2 (by omega) (by omega) (by omega) hsub) ?k1 ?k2 ?k3 ?k4 ?k5 ?kK ?kd ?ku ?_; (case k1 => k_asm); (case k2 => k_asm); (case k3 => k_asm); (case k4 => k_asm); (case k5 => k_asm); (case kK => exact rfl))
            case kd => ktr_room
            case ku => ktr_units
            rintro r new h5 tk5 F5 N5 _ ⟨t5, rfl, rfl⟩
            replace N5 : News g3 L3 h5 T2 := N5
            k_steps
            exact hret0 hret2 (by assumption) (by assumption) ⟨_, congrArg (fun z => Value.int z _) (dnum_join (by omega) (by omega) (by omega) (by assumption) rfl), rfl⟩
      rw [hvl]
      have inn := fun ta tb => inner ds.length 0 ds.length ta tb Bl (Nat.le_refl _) hlen.1 (Nat.le_refl _) (fun _ h => h)
      simp only [show ((0 : Nat) : Int) = 0 from rfl] at inn
      k_dflt (refine' spec_use (inn _ _) ?k1 ?k2 ?k3 ?k4 ?k5 ?kK ?kd ?ku ?_; (case k1 => k_asm); (case k2 => k_asm); (case k3 => k_asm); (case k4 => k_asm); (case k5 => k_asm); (case kK => exact rfl))
      case kd => ktr_room
      case ku => ktr_units
      rintro r new h5 tk5 F5 N5 _ ⟨t5, rfl, rfl⟩
      replace N5 : News g' L' h5 Bl := N5
      rw [hBl] at N5
      k_steps
      rename News h₀ L _ _ => NZ
      rename Fr h₀ L _ _ => FZ
      try simp only [Array.empty_append] at NZ
      obtain ⟨A', NA, hA⟩ := tab_exit (P := 51) (li := 88) (co := 4) (q := Str.ofString "_digits2int.<locals>.inner") (R := R) NZ (by repeat (first | exact List.Mem.head _ | apply List.Mem.tail)) (by repeat (first | exact List.Mem.head _ | apply List.Mem.tail)) (fun p hp => by repeat (first | exact hp | apply List.Mem.tail)) (by assumption) (by assumption)
      exact hret _ _ _ _ FZ NA ⟨_, _, by rw [seg_all], rfl, hA⟩
  ·
      k_dflt (refine' code_defC ?k1 ?k2 ?k3 ?k4 ?k5 ?kA ?kF ?kK ?k6 ?k7 ?k8 ?k9 ?kB ?kD ?_ ?c2 ?c3 ?c4; (case kA => exact rfl); (case kF => exact rfl); (case kK => assumption); (case k1 => k_asm); (case k2 => k_asm); (case k3 => k_asm); (case k4 => k_asm); (case k5 => k_asm); (case k6 => k_is); (case k7 => k_is); (case k8 => ktr_room); (case k9 => exact BindsTo.of_eq rfl); (case kB => exact rfl); (case kD => decide +kernel); (case c2 => exact rfl); (case c3 => exact rfl); (case c4 => exact rfl); k_whole; intro g' L' h' tk' cells' FG' F' N' Y' B' X' T' l1; (try k_lt l1); k_cells Y'; (try simp only [List.cons_append, List.nil_append] at N'); (try dsimp only); (try k_lift B'); (try k_fold))
      obtain ⟨l51, lR⟩ := l1
      have C : CodeHd g' 55 51 := codeHd_of_K X' (by kernel_rfl)
      k_steps
      refine Stop.in ?_
      (rename News _ _ _ _ => Nn)
      refine with_call fun f hff => ?_
      subst hff
      refine with_ledger Nn fun Bl hBl NB => ?_
      have inner : ∀ (sz lo hi : Nat) (ta tb : Tok) (T2 : Led), hi - lo ≤ sz → lo < hi → hi ≤ ds.length → (∀ q ∈ Bl, q ∈ T2) →
          Spec PySem.Challenge.pw_wf0044_03 w (Mine.hd.heap_39 w.params) topProg loose mean mg mb (hi - lo + 3) (8 * (hi - lo) + 40) f [.int lo ta, .int hi tb] T2
            (fun v new => ∃ t, v = .int (dnum n.toNat (seg ds lo hi)) t ∧ new = []) := by
        intro sz
        induction sz with
        | zero => intro lo hi ta tb T2 h1 h2; omega
        | succ sz ih =>
          intro lo hi ta tb T2 h1 h2 h3 hsub
          have hm0 := hsub (_, _) (by rw [hBl]; exact List.Mem.head _)
          have hm1 := hsub (_, _) (by rw [hBl]; exact List.Mem.tail _ (List.Mem.head _))
          have hm2 := hsub (_, _) (by rw [hBl]; exact List.Mem.tail _ (List.Mem.tail _ (List.Mem.head _)))
          have hm3 := hsub (_, _) (by rw [hBl]; exact List.Mem.tail _ (List.Mem.tail _ (List.Mem.tail _ (List.Mem.head _))))
          have hm4 := hsub (_, _) (by rw [hBl]; exact List.Mem.tail _ (List.Mem.tail _ (List.Mem.tail _ (List.Mem.tail _ (List.Mem.head _)))))
          have hm5 := hsub (_, _) (by rw [hBl]; exact List.Mem.tail _ (List.Mem.tail _ (List.Mem.tail _ (List.Mem.tail _ (List.Mem.tail _ (List.Mem.head _))))))
          have hml := hsub _ (by rw [hBl]; exact List.Mem.tail _ (List.Mem.tail _ (List.Mem.tail _ (List.Mem.tail _ (List.Mem.tail _ (List.Mem.tail _ (hl)))))))
          unfold Spec
          intro dp2 un2 gd2 cn2 cs2 a2 ccd2 cl2 outer2 A2 base2 h20 L2 m2 s2 Q2 E2 B2 F2 X2 N2 Tp2 hk2 hd2 hu2 hret2
          refine wpAny_call ?_
          k_dflt (refine' code_nest ?k1 ?k2 ?k3 ?k4 ?k5 ?kA ?kF ?kK ?k6 ?k7 ?k8 ?k9 ?kB ?_ ?c2 ?c3 ?c4 ?c5; (case kA => exact rfl); (case kF => exact rfl); (case kK => assumption); (case k1 => k_asm); (case k2 => k_asm); (case k3 => k_asm); (case k4 => k_asm); (case k5 => k_asm); (case k6 => k_mem); (case k7 => exact codeRec_news (by k_asm) (by k_mem) (by assumption) (by assumption)); (case k8 => ktr_room); (case k9 => exact BindsTo.of_eq rfl); (case c5 => decide); (case kB => exact locs rfl); (case c2 => exact rfl); (case c3 => exact rfl); (case c4 => exact rfl); k_whole; intro g3 L3 h3 FG3 F3 N3 B3 X3 T3; (try dsimp only); (try k_lift B3); (try k_fold))
          have hmid : ((lo : Int) + hi) / 2 = (((lo + hi) / 2 : Nat) : Int) := by omega
          obtain ⟨mid, hmd⟩ : ∃ mid, mid = (lo + hi) / 2 := ⟨_, rfl⟩
          rw [← hmd] at hmid
          k_steps
          · have e : hi = lo + 1 := by omega
            subst e
            exact hret0 hret2 (by assumption) (by assumption) ⟨_, congrArg (fun z => Value.int z _) (dnum_one n.toNat (by omega)).symm, rfl⟩
          · refine Stop.in ?_
            rw [hmid]
            k_dflt (refine' spec_use (ih mid hi _ _ T2 (by omega) (by omega) (by omega) hsub) ?k1 ?k2 ?k3 ?k4 ?k5 ?kK ?kd ?ku ?_; (case k1 => k_asm); (case k2 => k_asm); (case k3 => k_asm); (case k4 => k_asm); (case k5 => k_asm); (case kK => exact rfl))
            case kd => ktr_room
            case ku => ktr_units
            rintro r new h4 tk4 F4 N4 _ ⟨t4, rfl, rfl⟩
            have hS : Small (dnum n.toNat (seg ds mid hi)) := dnum_seg_small (by omega) hlen.2 hdig
            have hsh : 0 ≤ (((lo : Int) + hi) / 2 - lo) * n ∧ (((lo : Int) + hi) / 2 - lo) * n ≤ 10000000 := shift_rng ⟨by omega, by omega⟩ hn
            replace N4 : News g3 L3 h4 T2 := N4
            k_steps
            refine Stop.in ?_
            rw [hmid]
            k_dflt (refine' spec_use (ih lo mid _ _ T2 (by omega) (by omega) (by omega) hsub) ?k1 ?k2 ?k3 ?k4 ?k5 ?kK ?kd ?ku ?_; (case k1 => k_asm); (case k2 => k_asm); (case k3 => k_asm); (case k4 => k_asm); (case k5 => k_asm); (case kK => exact rfl))
            case kd => ktr_room
            case ku => ktr_units
            rintro r new h5 tk5 F5 N5 _ ⟨t5, rfl, rfl⟩
            replace N5 : News g3 L3 h5 T2 := N5
            k_steps
            exact hret0 hret2 (by assumption) (by assumption) ⟨_, congrArg (fun z => Value.int z _) (dnum_join (by omega) (by omega) (by omega) (by assumption) rfl), rfl⟩
      rw [hvl]
      have inn := fun ta tb => inner ds.length 0 ds.length ta tb Bl (Nat.le_refl _) hlen.1 (Nat.le_refl _) (fun _ h => h)
      simp only [show ((0 : Nat) : Int) = 0 from rfl] at inn
      k_dflt (refine' spec_use (inn _ _) ?k1 ?k2 ?k3 ?k4 ?k5 ?kK ?kd ?ku ?_; (case k1 => k_asm); (case k2 => k_asm); (case k3 => k_asm); (case k4 => k_asm); (case k5 => k_asm); (case kK => exact rfl))
      case kd => ktr_room
      case ku => ktr_units
      rintro r new h5 tk5 F5 N5 _ ⟨t5, rfl, rfl⟩
      replace N5 : News g' L' h5 Bl := N5
      rw [hBl] at N5
      k_steps
      rename News h₀ L _ _ => NZ
      rename Fr h₀ L _ _ => FZ
      try simp only [Array.empty_append] at NZ
      obtain ⟨A', NA, hA⟩ := tab_exit (P := 51) (li := 88) (co := 4) (q := Str.ofString "_digits2int.<locals>.inner") (R := R) NZ (by repeat (first | exact List.Mem.head _ | apply List.Mem.tail)) (by repeat (first | exact List.Mem.head _ | apply List.Mem.tail)) (fun p hp => by repeat (first | exact hp | apply List.Mem.tail)) (by assumption) (by assumption)
      exact hret _ _ _ _ FZ NA ⟨_, _, by rw [seg_all], rfl, hA⟩
set_option exponentiation.threshold 6000 in
set_option maxHeartbeats 8000000 in
theorem d2i_in0 (w : World) (loose mean mg mb) (T R : Led) (hT : (T = (51, tabObj #[]) :: R ∧ ∀ p ∈ R, p.1 ≠ 51) ∨ ∃ c0 oc0 vs0 t0, T = (51, tabObj #[rawInt 88, rawInt 4, .ref c0]) :: (c0, oc0) :: R ∧ oc0.data = .fields vs0 ∧ vs0[1]? = some (.str (Str.ofString "_digits2int.<locals>.inner") t0)) (l : Addr) (vs : List Value) (k : Nat) (n : Int) (t2 : Tok) (hl : (l, listOf vs.toArray k) ∈ R) (hi : vs = []) (hn : 0 < n ∧ n < 5000)
   :
   SpecT PySem.Challenge.pw_wf0044_03 w (Mine.hd.heap_39 w.params) topProg loose mean mg mb 10 80 56 [.ref l, .int n t2] T (fun v T' => ∃ t A', v = .int 0 t ∧ T' = A' ++ R ∧ TabOk 51 88 4 (Str.ofString "_digits2int.<locals>.inner") A') := by
  have hvl : vs.length = 0 := by rw [hi]; rfl
  unfold SpecT
  intro dp un gd cn cs a ccd cl outer A₀ base h₀ L m s Q E B F X N Tp hk hd hu hret
  refine wpAny_call ?_
  have hk0 : (PySem.Challenge.rw_wf0044_03 = PySem.Challenge.rw_wf0044_03 ∧ Mine.hd.heap_39 = Mine.hd.heap_39) := by (k_fill; exact ⟨rfl, rfl⟩)
  clear hk0
  rcases hT with ⟨rfl, hR⟩ | ⟨c0, oc0, vs0, t0, rfl, hoc0, hvs0⟩
  ·
      k_dflt (refine' code_defC ?k1 ?k2 ?k3 ?k4 ?k5 ?kA ?kF ?kK ?k6 ?k7 ?k8 ?k9 ?kB ?kD ?_ ?c2 ?c3 ?c4; (case kA => exact rfl); (case kF => exact rfl); (case kK => assumption); (case k1 => k_asm); (case k2 => k_asm); (case k3 => k_asm); (case k4 => k_asm); (case k5 => k_asm); (case k6 => k_is); (case k7 => k_is); (case k8 => ktr_room); (case k9 => exact BindsTo.of_eq rfl); (case kB => exact rfl); (case kD => decide +kernel); (case c2 => exact rfl); (case c3 => exact rfl); (case c4 => exact rfl); k_whole; intro g' L' h' tk' cells' FG' F' N' Y' B' X' T' l1; (try k_lt l1); k_cells Y'; (try simp only [List.cons_append, List.nil_append] at N'); (try dsimp only); (try k_lift B'); (try k_fold))
      obtain ⟨l51, lR⟩ := l1
      have C : CodeHd g' 55 51 := codeHd_of_K X' (by kernel_rfl)
      k_steps
      rename News h₀ L _ _ => NZ
      rename Fr h₀ L _ _ => FZ
      try simp only [Array.empty_append] at NZ
      obtain ⟨A', NA, hA⟩ := tab_exit (P := 51) (li := 88) (co := 4) (q := Str.ofString "_digits2int.<locals>.inner") (R := R) NZ (by repeat (first | exact List.Mem.head _ | apply List.Mem.tail)) (by repeat (first | exact List.Mem.head _ | apply List.Mem.tail)) (fun p hp => by repeat (first | exact hp | apply List.Mem.tail)) (by assumption) (by assumption)
      exact hret _ _ _ _ FZ NA ⟨_, _, rfl, rfl, hA⟩
  ·
      k_dflt (refine' code_defC ?k1 ?k2 ?k3 ?k4 ?k5 ?kA ?kF ?kK ?k6 ?k7 ?k8 ?k9 ?kB ?kD ?_ ?c2 ?c3 ?c4; (case kA => exact rfl); (case kF => exact rfl); (case kK => assumption); (case k1 => k_asm); (case k2 => k_asm); (case k3 => k_asm); (case k4 => k_asm); (case k5 => k_asm); (case k6 => k_is); (case k7 => k_is); (case k8 => ktr_room); (case k9 => exact BindsTo.of_eq rfl); (case kB => exact rfl); (case kD => decide +kernel); (case c2 => exact rfl); (case c3 => exact rfl); (case c4 => exact rfl); k_whole; intro g' L' h' tk' cells' FG' F' N' Y' B' X' T' l1; (try k_lt l1); k_cells Y'; (try simp only [List.cons_append, List.nil_append] at N'); (try dsimp only); (try k_lift B'); (try k_fold))
      obtain ⟨l51, lR⟩ := l1
      have C : CodeHd g' 55 51 := codeHd_of_K X' (by kernel_rfl)
      k_steps
      rename News h₀ L _ _ => NZ
      rename Fr h₀ L _ _ => FZ
      try simp only [Array.empty_append] at NZ
      obtain ⟨A', NA, hA⟩ := tab_exit (P := 51) (li := 88) (co := 4) (q := Str.ofString "_digits2int.<locals>.inner") (R := R) NZ (by repeat (first | exact List.Mem.head _ | apply List.Mem.tail)) (by repeat (first | exact List.Mem.head _ | apply List.Mem.tail)) (fun p hp => by repeat (first | exact hp | apply List.Mem.tail)) (by assumption) (by assumption)
      exact hret _ _ _ _ FZ NA ⟨_, _, rfl, rfl, hA⟩
theorem d2i_spec (w : World) (loose mean mg mb) (R Tb : Led) (hT : Tabs 51 44 Tb) (hC : Cl R) (l : Addr) (vs : List Value) (ds : List Int) (k : Nat) (n : Int) (t2 : Tok) (hl : (l, listOf vs.toArray k) ∈ R) (hi : IntsAre vs ds) (hlen : ds.length < 200) (hn : 0 < n ∧ n < 5000) (hdig : ∀ d ∈ ds, d.natAbs < 2 ^ 5000) :
   SpecT PySem.Challenge.pw_wf0044_03 w (Mine.hd.heap_39 w.params) topProg loose mean mg mb 250 2000 56 [.ref l, .int n t2] (R ++ Tb) (fun v T' => (∃ t, v = .int (dnum n.toNat ds) t) ∧ ∃ Tb', T' = R ++ Tb' ∧ Tabs 51 44 Tb') := by
  refine SpecT.tabA hT hC (by decide) fun T R₀ hR h => ?_
  by_cases h0 : 0 < ds.length
  · refine ((d2i_in w loose mean mg mb T R₀ h l vs ds k n t2 (hR _ hl) hi ⟨h0, hlen⟩ hn hdig).room (by omega) (by omega)).post ?_
    rintro v T' ⟨t, A', h1, h2, h3⟩
    exact ⟨⟨t, h1⟩, A', h2, h3⟩
  · have e0 : ds = [] := List.length_eq_zero_iff.mp (by omega)
    subst e0
    have e1 : vs = [] := List.length_eq_zero_iff.mp hi.length
    refine ((d2i_in0 w loose mean mg mb T R₀ h l vs k n t2 (hR _ hl) e1 hn).room (by omega) (by omega)).post ?_
    rintro v T' ⟨t, A', h1, h2, h3⟩
    exact ⟨⟨t, h1⟩, A', h2, h3⟩
end Mine
end
section
open PySem PySem.W PyProof.Rows PySem.Calls
set_option maxRecDepth 100000
namespace Mine
local macro_rules | `(tactic| k_mem) => `(tactic| first | assumption | exact List.Mem.tail _ (by assumption))
local macro_rules | `(tactic| k_all) => `(tactic| first | assumption | (refine allNe_lt (by assumption) ?_; show @LE.le Nat _ _ _; omega))
local macro_rules | `(tactic| walk_at "call ref") => `(tactic| (k_here; refine Stop.mk ?_))
local macro_rules | `(tactic| walk_at "truthy ref") => `(tactic| (k_here; k_dflt (refine' truthy_lK ?k1 ?k2 ?k3 ?_; (case k1 => k_asm); (case k2 => k_mem)); (case k3 => (show _; omega)); k_whole))
local macro_rules | `(tactic| walk_at "call builtin:len") => `(tactic| (k_here; (with_reducible show wpAny _ _ (call (Value.builtin "len") [Value.ref _]) _ _ _); k_dflt (refine' len_lK ?k1 ?k2 ?k3 ?_; (case k1 => k_asm); (case k2 => k_mem)); (case k3 => (show _; omega)); k_whole; intro _))
local macro_rules | `(tactic| walk_at "binaryOp RShift int int") => `(tactic| (k_here; first | (with_reducible refine rshift1_K ?_) | (refine rshift_K (by assumption) ?_)))
local macro_rules | `(tactic| walk_at "binaryOp Mult ref int") => `(tactic| (k_here; k_dflt (refine' rep_K ?k1 ?k2 ?k3 ?k4 ?_; (case k1 => k_asm); (case k2 => k_asm); (case k3 => k_mem); (case k4 => assumption); k_whole); intro D' h' vs' F' N' l1 i1 n1; (try k_lt l1)))
local macro_rules | `(tactic| walk_at "setItem ref int") => `(tactic| (k_here; k_dflt (refine' set_lK ?k1 ?k2 ?k3 ?k4 ?_; (case k1 => k_asm); (case k2 => k_asm); (case k3 => k_upd); (case k4 => assumption); k_whole); intro h' F' N'; (try k_sweep)))
local macro_rules | `(tactic| walk_at "binaryOp Mult int int") => `(tactic| (k_here; refine mul_K (small_int (by omega)) (small_int (by omega)) ?_))
local macro_rules | `(tactic| walk_at "binaryOp LShift int int") => `(tactic| (k_here; refine lshift_K (by assumption) (by assumption) ?_))
set_option exponentiation.threshold 6000 in
set_option maxHeartbeats 8000000 in
theorem i2d_in (w : World) (loose mean mg mb) (T R : Led) (hT : (T = (44, tabObj #[]) :: R ∧ ∀ p ∈ R, p.1 ≠ 44) ∨ ∃ c0 oc0 vs0 t0, T = (44, tabObj #[rawInt 73, rawInt 4, .ref c0]) :: (c0, oc0) :: R ∧ oc0.data = .fields vs0 ∧ vs0[1]? = some (.str (Str.ofString "_int2digits.<locals>.inner") t0)) (n a0 : Int) (t1 t2 : Tok) (hn : 0 < n ∧ n < 5000) (ha : 0 ≤ a0) (hkf : figs n.toNat a0 < 200)
   :
   SpecT PySem.Challenge.pw_wf0044_03 w (Mine.hd.heap_39 w.params) topProg loose mean mg mb 250 2000 49 [.int a0 t1, .int n t2] T (fun v T' => ∃ D vs A', v = .ref D ∧ IntsAre vs (digs n.toNat (figs n.toNat a0) a0) ∧ T' = A' ++ ((D, listOf vs.toArray 0) :: R) ∧ TabOk 44 73 4 (Str.ofString "_int2digits.<locals>.inner") A' ∧ ∀ q ∈ R, q.1 < D) := by
  have hfd := figs_fdiv (a := a0) hn.1
  have hk9 : 0 ≤ ((Builtin.Int.intBits a0 : Int) + n - 1).fdiv n ∧ ((Builtin.Int.intBits a0 : Int) + n - 1).fdiv n < 1000000 := by omega
  unfold SpecT
  intro dp un gd cn cs a ccd cl outer A₀ base h₀ L m s Q E B F X N Tp hk hd hu hret
  refine wpAny_call ?_
  have hk0 : (PySem.Challenge.rw_wf0044_03 = PySem.Challenge.rw_wf0044_03 ∧ Mine.hd.heap_39 = Mine.hd.heap_39) := by (k_fill; exact ⟨rfl, rfl⟩)
  clear hk0
  rcases hT with ⟨rfl, hR⟩ | ⟨c0, oc0, vs0, t0, rfl, hoc0, hvs0⟩
  ·
      k_dflt (refine' code_defC ?k1 ?k2 ?k3 ?k4 ?k5 ?kA ?kF ?kK ?k6 ?k7 ?k8 ?k9 ?kB ?kD ?_ ?c2 ?c3 ?c4; (case kA => exact rfl); (case kF => exact rfl); (case kK => assumption); (case k1 => k_asm); (case k2 => k_asm); (case k3 => k_asm); (case k4 => k_asm); (case k5 => k_asm); (case k6 => k_is); (case k7 => k_is); (case k8 => ktr_room); (case k9 => exact BindsTo.of_eq rfl); (case kB => exact rfl); (case kD => decide +kernel); (case c2 => exact rfl); (case c3 => exact rfl); (case c4 => exact rfl); k_whole; intro g' L' h' tk' cells' FG' F' N' Y' B' X' T' l1; (try k_lt l1); k_cells Y'; (try simp only [List.cons_append, List.nil_append] at N'); (try dsimp only); (try k_lift B'); (try k_fold))
      obtain ⟨l44, lR⟩ := l1
      have C : CodeHd g' 48 44 := codeHd_of_K X' (by kernel_rfl)
      k_steps
      ·
        refine Stop.in ?_
        (rename News _ _ _ _ => Nn)
        rename IntsAre _ _ => hi0
        rename List.length _ = _ => hl0
        refine with_call fun f hff => ?_
        subst hff
        refine with_mem Nn (by repeat (first | exact List.Mem.head _ | apply List.Mem.tail)) fun D0 vl0 hD0 hvl0 => ?_
        subst hD0
        subst hvl0
        refine with_upd (d := D0) (o := listOf vl0.toArray 0) (o' := listOf vl0.toArray 0) Nn (by k_dflt k_upd) fun Bl R2 hBl hne hin NB => ?_
        try (have hm0 := hin (_, _) (by rw [hBl]; exact List.Mem.head _) (by k_ne))
        try (have hm1 := hin (_, _) (by rw [hBl]; exact List.Mem.tail _ (List.Mem.head _)) (by k_ne))
        try (have hm2 := hin (_, _) (by rw [hBl]; exact List.Mem.tail _ (List.Mem.tail _ (List.Mem.head _))) (by k_ne))
        try (have hm3 := hin (_, _) (by rw [hBl]; exact List.Mem.tail _ (List.Mem.tail _ (List.Mem.tail _ (List.Mem.head _)))) (by k_ne))
        try (have hm4 := hin (_, _) (by rw [hBl]; exact List.Mem.tail _ (List.Mem.tail _ (List.Mem.tail _ (List.Mem.tail _ (List.Mem.head _))))) (by k_ne))
        try (have hm5 := hin (_, _) (by rw [hBl]; exact List.Mem.tail _ (List.Mem.tail _ (List.Mem.tail _ (List.Mem.tail _ (List.Mem.tail _ (List.Mem.head _)))))) (by k_ne))
        try (have hm6 := hin (_, _) (by rw [hBl]; exact List.Mem.tail _ (List.Mem.tail _ (List.Mem.tail _ (List.Mem.tail _ (List.Mem.tail _ (List.Mem.tail _ (List.Mem.head _))))))) (by k_ne))
        try (have hm7 := hin (_, _) (by rw [hBl]; exact List.Mem.tail _ (List.Mem.tail _ (List.Mem.tail _ (List.Mem.tail _ (List.Mem.tail _ (List.Mem.tail _ (List.Mem.tail _ (List.Mem.head _)))))))) (by k_ne))
        have inner : ∀ (sz lo hi : Nat) (x : Int) (ta tb tc : Tok) (vl : List Value), hi - lo ≤ sz → lo < hi → hi ≤ vl.length → vl.length < 1000000 → 0 ≤ x ∧ x < 2 ^ (n.toNat * (hi - lo)) → (hi - lo < 200) → 
            SpecT PySem.Challenge.pw_wf0044_03 w (Mine.hd.heap_39 w.params) topProg loose mean mg mb (hi - lo + 3) (8 * (hi - lo) + 40) f [.int x tb, .int lo ta, .int hi tc] ((D0, listOf vl.toArray 0) :: R2)
              (fun v T' => v = .none ∧ ∃ ws, IntsAre ws (digs n.toNat (hi - lo) x) ∧ T' = (D0, listOf (vl.take lo ++ ws ++ vl.drop hi).toArray 0) :: R2) := by
          intro sz
          induction sz with
          | zero => intro lo hi x ta tb tc vl h1 h2; omega
          | succ sz ih =>
            intro lo hi x ta tb tc vl h1 h2 h3 h4 hx h5
            unfold SpecT
            intro dp2 un2 gd2 cn2 cs2 a2 ccd2 cl2 outer2 A2 base2 h20 L2 m2 s2 Q2 E2 B2 F2 X2 N2 Tp2 hk2 hd2 hu2 hret2
            refine wpAny_call ?_
            k_dflt (refine' code_nest ?k1 ?k2 ?k3 ?k4 ?k5 ?kA ?kF ?kK ?k6 ?k7 ?k8 ?k9 ?kB ?_ ?c2 ?c3 ?c4 ?c5; (case kA => exact rfl); (case kF => exact rfl); (case kK => assumption); (case k1 => k_asm); (case k2 => k_asm); (case k3 => k_asm); (case k4 => k_asm); (case k5 => k_asm); (case k6 => k_mem); (case k7 => exact codeRec_news (by k_asm) (by k_mem) (by assumption) (by assumption)); (case k8 => ktr_room); (case k9 => exact BindsTo.of_eq rfl); (case c5 => decide); (case kB => exact locs rfl); (case c2 => exact rfl); (case c3 => exact rfl); (case c4 => exact rfl); k_whole; intro g3 L3 h3 FG3 F3 N3 B3 X3 T3; (try dsimp only); (try k_lift B3); (try k_fold))
            have hmid : ((lo : Int) + hi) / 2 = (((lo + hi) / 2 : Nat) : Int) := by omega
            obtain ⟨mid, hmd⟩ : ∃ mid, mid = (lo + hi) / 2 := ⟨_, rfl⟩
            rw [← hmd] at hmid
            have hset : 0 ≤ (lo : Int) ∧ (lo : Int) < vl.length ∧ vl.length < 1000000 := ⟨by omega, by omega, h4⟩
            have hsn : (((mid : Int) - lo) * n).toNat = n.toNat * (mid - lo) := sh_nat (by omega) (by omega)
            have hsh0 : 0 ≤ (((lo : Int) + hi) / 2 - lo) * n := by rw [hmid]; exact Int.mul_nonneg (by omega) (by omega)
            have hsh : 0 ≤ (((lo : Int) + hi) / 2 - lo) * n ∧ (((lo : Int) + hi) / 2 - lo) * n ≤ 10000000 := shift_rng ⟨by omega, by omega⟩ hn
            have hS : Small (x / 2 ^ ((((lo : Int) + hi) / 2 - lo) * n).toNat) := digs_small hn hx h5
            k_steps
            · have e : hi = lo + 1 := by omega
              subst e
              rename News g3 L3 _ _ => NZ
              rename Fr h20 L2 _ _ => FZ
              rename News h20 L2 _ _ => NY
              refine hret2 _ _ _ _ FZ NY ⟨rfl, [.int x tb], ?_, ?_⟩
              · rw [show lo + 1 - lo = 1 from by omega] at hx ⊢
                rw [digs_one hx.1 (by rw [Nat.mul_one] at hx; exact hx.2)]
                exact IntsAre.cons x tb IntsAre.nil
              · rw [Int.toNat_natCast, put_one (by omega)]
            · refine Stop.in ?_
              rw [xor_low hx.1, hmid, hsn]
              k_dflt (refine' specT_use (ih lo mid (x % 2 ^ (n.toNat * (mid - lo))) _ _ _ vl (by omega) (by omega) (by omega) h4 lo_rng (by omega)) ?k1 ?k2 ?k3 ?k4 ?k5 ?kK ?ks ?kd ?ku ?_; (case k1 => k_asm); (case k2 => k_asm); (case k3 => k_asm); (case k4 => k_asm); (case k5 => k_asm); (case kK => exact rfl); (case ks => exact fun _ h => h))
              case kd => ktr_room
              case ku => ktr_units
              rintro r T4 h4 tk4 F4 N4 ⟨rfl, ws1, hw1, rfl⟩
              have hwl : ws1.length = mid - lo := by rw [hw1.length, digs_len]
              have hvl1 := put_len (vl := vl) (ws := ws1) (lo := lo) (hi := mid) (by omega) (by omega) hwl
              replace N4 : News g3 L3 h4 ((D0, listOf (vl.take lo ++ ws1 ++ vl.drop mid).toArray 0) :: R2) := N4
              k_steps
              refine Stop.in ?_
              rw [hmid, hsn]
              k_dflt (refine' specT_use (ih mid hi (x / 2 ^ (n.toNat * (mid - lo))) _ _ _ (vl.take lo ++ ws1 ++ vl.drop mid) (by omega) (by omega) (by omega) (by omega) (hi_rng (by omega) (by omega) hx) (by omega)) ?k1 ?k2 ?k3 ?k4 ?k5 ?kK ?ks ?kd ?ku ?_; (case k1 => k_asm); (case k2 => k_asm); (case k3 => k_asm); (case k4 => k_asm); (case k5 => k_asm); (case kK => exact rfl); (case ks => exact fun _ h => h))
              case kd => ktr_room
              case ku => ktr_units
              rintro r T5 h5 tk5 F5 N5 ⟨rfl, ws2, hw2, rfl⟩
              replace N5 : News g3 L3 h5 ((D0, listOf ((vl.take lo ++ ws1 ++ vl.drop mid).take mid ++ ws2 ++ (vl.take lo ++ ws1 ++ vl.drop mid).drop hi).toArray 0) :: R2) := N5
              k_steps
              rename Fr h20 L2 _ _ => FZ
              rename News h20 L2 _ _ => NY
              refine hret2 _ _ _ _ FZ NY ⟨rfl, ws1 ++ ws2, ?_, ?_⟩
              · rw [← digs_join (n := n.toNat) (x := x) (lo := lo) (mid := mid) (hi := hi) (by omega) (by omega)]
                exact IntsAre.append hw1 hw2
              · rw [put_join (by omega) (by omega) (by assumption) hwl]
        have hbig : 0 ≤ a0 ∧ a0 < 2 ^ (n.toNat * (vl0.length - 0)) := by
          refine ⟨ha, ?_⟩
          rw [Nat.sub_zero, hl0, hfd, Int.toNat_natCast]
          exact figs_big (by omega) ha
        have hvn : vl0.length = figs n.toNat a0 := by rw [hl0, hfd, Int.toNat_natCast]
        have hpos := figs_pos (n := n.toNat) (a := a0) (by omega) (by assumption)
        have inn := fun ta tb tc => inner vl0.length 0 vl0.length a0 ta tb tc vl0 (by omega) (by omega) (Nat.le_refl _) (by omega) hbig (by omega)
        simp only [show ((0 : Nat) : Int) = 0 from rfl] at inn
        k_dflt (refine' specT_use (inn _ _ _) ?k1 ?k2 ?k3 ?k4 ?k5 ?kK ?ks ?kd ?ku ?_; (case k1 => k_asm); (case k2 => k_asm); (case k3 => k_asm); (case k4 => k_asm); (case k5 => k_asm); (case kK => exact rfl); (case ks => exact fun _ h => h))
        case kd => ktr_room
        case ku => ktr_units
        rintro r T5 h5 tk5 F5 N5 ⟨rfl, ws, hw, rfl⟩
        replace N5 : News g' L' h5 ((D0, listOf ws.toArray 0) :: R2) := by
          rw [List.take_zero, List.nil_append, List.drop_length, List.append_nil] at N5
          exact N5
        k_steps
        rename Fr h₀ L _ _ => FZ
        rename News h₀ L _ _ => NY
        obtain ⟨A', NA, hA⟩ := tab_exit (P := 44) (li := 73) (co := 4) (q := Str.ofString "_int2digits.<locals>.inner") (R := (D0, listOf ws.toArray 0) :: R) NY (by k_mem) (by k_mem)
          (fun p hp => by
            rcases List.mem_cons.mp hp with rfl | hp
            · exact List.Mem.head _
            · exact List.Mem.tail _ (hin p (by rw [hBl]; repeat (first | exact hp | apply List.Mem.tail)) (allNe_lt lR (by show @LE.le Nat _ _ _; omega) p hp))) (by assumption) (by assumption)
        rw [Nat.sub_zero, hvn] at hw
        exact hret _ _ _ _ FZ NA ⟨_, ws, A', rfl, hw, rfl, hA, allLt_le lR (by show @LE.le Nat _ _ _; omega)⟩
      · rename IntsAre _ _ => hi0
        rename List.length _ = _ => hl0
        have e0 : a0 = 0 := by assumption
        subst e0
        rw [hfd, figs_zero (by omega)] at hl0
        rename Fr h₀ L _ _ => FZ
        rename News h₀ L _ _ => NY
        obtain ⟨A', NA, hA⟩ := tab_exit (P := 44) (li := 73) (co := 4) (q := Str.ofString "_int2digits.<locals>.inner") (R := (_, listOf (List.toArray _) 0) :: R) NY (by repeat (first | exact List.Mem.head _ | apply List.Mem.tail)) (by repeat (first | exact List.Mem.head _ | apply List.Mem.tail))
          (fun p hp => by
            rcases List.mem_cons.mp hp with rfl | hp
            · repeat (first | exact List.Mem.head _ | apply List.Mem.tail)
            · repeat (first | exact hp | apply List.Mem.tail)) (by assumption) (by assumption)
        refine hret _ _ _ _ FZ NA ⟨_, _, A', rfl, ?_, rfl, hA, allLt_le lR (by show @LE.le Nat _ _ _; omega)⟩
        have e1 := List.length_eq_zero_iff.mp hl0
        rw [e1, figs_zero (by omega)]
        exact IntsAre.nil
  ·
      k_dflt (refine' code_defC ?k1 ?k2 ?k3 ?k4 ?k5 ?kA ?kF ?kK ?k6 ?k7 ?k8 ?k9 ?kB ?kD ?_ ?c2 ?c3 ?c4; (case kA => exact rfl); (case kF => exact rfl); (case kK => assumption); (case k1 => k_asm); (case k2 => k_asm); (case k3 => k_asm); (case k4 => k_asm); (case k5 => k_asm); (case k6 => k_is); (case k7 => k_is); (case k8 => ktr_room); (case k9 => exact BindsTo.of_eq rfl); (case kB => exact rfl); (case kD => decide +kernel); (case c2 => exact rfl); (case c3 => exact rfl); (case c4 => exact rfl); k_whole; intro g' L' h' tk' cells' FG' F' N' Y' B' X' T' l1; (try k_lt l1); k_cells Y'; (try simp only [List.cons_append, List.nil_append] at N'); (try dsimp only); (try k_lift B'); (try k_fold))
      obtain ⟨l44, lc0, lR⟩ := l1
      have C : CodeHd g' 48 44 := codeHd_of_K X' (by kernel_rfl)
      k_steps
      ·
        refine Stop.in ?_
        (rename News _ _ _ _ => Nn)
        rename IntsAre _ _ => hi0
        rename List.length _ = _ => hl0
        refine with_call fun f hff => ?_
        subst hff
        refine with_mem Nn (by repeat (first | exact List.Mem.head _ | apply List.Mem.tail)) fun D0 vl0 hD0 hvl0 => ?_
        subst hD0
        subst hvl0
        refine with_upd (d := D0) (o := listOf vl0.toArray 0) (o' := listOf vl0.toArray 0) Nn (by k_dflt k_upd) fun Bl R2 hBl hne hin NB => ?_
        try (have hm0 := hin (_, _) (by rw [hBl]; exact List.Mem.head _) (by k_ne))
        try (have hm1 := hin (_, _) (by rw [hBl]; exact List.Mem.tail _ (List.Mem.head _)) (by k_ne))
        try (have hm2 := hin (_, _) (by rw [hBl]; exact List.Mem.tail _ (List.Mem.tail _ (List.Mem.head _))) (by k_ne))
        try (have hm3 := hin (_, _) (by rw [hBl]; exact List.Mem.tail _ (List.Mem.tail _ (List.Mem.tail _ (List.Mem.head _)))) (by k_ne))
        try (have hm4 := hin (_, _) (by rw [hBl]; exact List.Mem.tail _ (List.Mem.tail _ (List.Mem.tail _ (List.Mem.tail _ (List.Mem.head _))))) (by k_ne))
        try (have hm5 := hin (_, _) (by rw [hBl]; exact List.Mem.tail _ (List.Mem.tail _ (List.Mem.tail _ (List.Mem.tail _ (List.Mem.tail _ (List.Mem.head _)))))) (by k_ne))
        try (have hm6 := hin (_, _) (by rw [hBl]; exact List.Mem.tail _ (List.Mem.tail _ (List.Mem.tail _ (List.Mem.tail _ (List.Mem.tail _ (List.Mem.tail _ (List.Mem.head _))))))) (by k_ne))
        try (have hm7 := hin (_, _) (by rw [hBl]; exact List.Mem.tail _ (List.Mem.tail _ (List.Mem.tail _ (List.Mem.tail _ (List.Mem.tail _ (List.Mem.tail _ (List.Mem.tail _ (List.Mem.head _)))))))) (by k_ne))
        have inner : ∀ (sz lo hi : Nat) (x : Int) (ta tb tc : Tok) (vl : List Value), hi - lo ≤ sz → lo < hi → hi ≤ vl.length → vl.length < 1000000 → 0 ≤ x ∧ x < 2 ^ (n.toNat * (hi - lo)) → (hi - lo < 200) → 
            SpecT PySem.Challenge.pw_wf0044_03 w (Mine.hd.heap_39 w.params) topProg loose mean mg mb (hi - lo + 3) (8 * (hi - lo) + 40) f [.int x tb, .int lo ta, .int hi tc] ((D0, listOf vl.toArray 0) :: R2)
              (fun v T' => v = .none ∧ ∃ ws, IntsAre ws (digs n.toNat (hi - lo) x) ∧ T' = (D0, listOf (vl.take lo ++ ws ++ vl.drop hi).toArray 0) :: R2) := by
          intro sz
          induction sz with
          | zero => intro lo hi x ta tb tc vl h1 h2; omega
          | succ sz ih =>
            intro lo hi x ta tb tc vl h1 h2 h3 h4 hx h5
            unfold SpecT
            intro dp2 un2 gd2 cn2 cs2 a2 ccd2 cl2 outer2 A2 base2 h20 L2 m2 s2 Q2 E2 B2 F2 X2 N2 Tp2 hk2 hd2 hu2 hret2
            refine wpAny_call ?_
            k_dflt (refine' code_nest ?k1 ?k2 ?k3 ?k4 ?k5 ?kA ?kF ?kK ?k6 ?k7 ?k8 ?k9 ?kB ?_ ?c2 ?c3 ?c4 ?c5; (case kA => exact rfl); (case kF => exact rfl); (case kK => assumption); (case k1 => k_asm); (case k2 => k_asm); (case k3 => k_asm); (case k4 => k_asm); (case k5 => k_asm); (case k6 => k_mem); (case k7 => exact codeRec_news (by k_asm) (by k_mem) (by assumption) (by assumption)); (case k8 => ktr_room); (case k9 => exact BindsTo.of_eq rfl); (case c5 => decide); (case kB => exact locs rfl); (case c2 => exact rfl); (case c3 => exact rfl); (case c4 => exact rfl); k_whole; intro g3 L3 h3 FG3 F3 N3 B3 X3 T3; (try dsimp only); (try k_lift B3); (try k_fold))
            have hmid : ((lo : Int) + hi) / 2 = (((lo + hi) / 2 : Nat) : Int) := by omega
            obtain ⟨mid, hmd⟩ : ∃ mid, mid = (lo + hi) / 2 := ⟨_, rfl⟩
            rw [← hmd] at hmid
            have hset : 0 ≤ (lo : Int) ∧ (lo : Int) < vl.length ∧ vl.length < 1000000 := ⟨by omega, by omega, h4⟩
            have hsn : (((mid : Int) - lo) * n).toNat = n.toNat * (mid - lo) := sh_nat (by omega) (by omega)
            have hsh0 : 0 ≤ (((lo : Int) + hi) / 2 - lo) * n := by rw [hmid]; exact Int.mul_nonneg (by omega) (by omega)
            have hsh : 0 ≤ (((lo : Int) + hi) / 2 - lo) * n ∧ (((lo : Int) + hi) / 2 - lo) * n ≤ 10000000 := shift_rng ⟨by omega, by omega⟩ hn
            have hS : Small (x / 2 ^ ((((lo : Int) + hi) / 2 - lo) * n).toNat) := digs_small hn hx h5
            k_steps
            · have e : hi = lo + 1 := by omega
              subst e
              rename News g3 L3 _ _ => NZ
              rename Fr h20 L2 _ _ => FZ
              rename News h20 L2 _ _ => NY
              refine hret2 _ _ _ _ FZ NY ⟨rfl, [.int x tb], ?_, ?_⟩
              · rw [show lo + 1 - lo = 1 from by omega] at hx ⊢
                rw [digs_one hx.1 (by rw [Nat.mul_one] at hx; exact hx.2)]
                exact IntsAre.cons x tb IntsAre.nil
              · rw [Int.toNat_natCast, put_one (by omega)]
            · refine Stop.in ?_
              rw [xor_low hx.1, hmid, hsn]
              k_dflt (refine' specT_use (ih lo mid (x % 2 ^ (n.toNat * (mid - lo))) _ _ _ vl (by omega) (by omega) (by omega) h4 lo_rng (by omega)) ?k1 ?k2 ?k3 ?k4 ?k5 ?kK ?ks ?kd ?ku ?_; (case k1 => k_asm); (case k2 => k_asm); (case k3 => k_asm); (case k4 => k_asm); (case k5 => k_asm); (case kK => exact rfl); (case ks => exact fun _ h => h))
              case kd => ktr_room
              case ku => ktr_units
              rintro r T4 h4 tk4 F4 N4 ⟨rfl, ws1, hw1, rfl⟩
              have hwl : ws1.length = mid - lo := by rw [hw1.length, digs_len]
              have hvl1 := put_len (vl := vl) (ws := ws1) (lo := lo) (hi := mid) (by omega) (by omega) hwl
              replace N4 : News g3 L3 h4 ((D0, listOf (vl.take lo ++ ws1 ++ vl.drop mid).toArray 0) :: R2) := N4
              k_steps
              refine Stop.in ?_
              rw [hmid, hsn]
              k_dflt (refine' specT_use (ih mid hi (x / 2 ^ (n.toNat * (mid - lo))) _ _ _ (vl.take lo ++ ws1 ++ vl.drop mid) (by omega) (by omega) (by omega) (by omega) (hi_rng (by omega) (by omega) hx) (by omega)) ?k1 ?k2 ?k3 ?k4 ?k5 ?kK ?ks ?kd ?ku ?_; (case k1 => k_asm); (case k2 => k_asm); (case k3 => k_asm); (case k4 => k_asm); (case k5 => k_asm); (case kK => exact rfl); (case ks => exact fun _ h => h))
              case kd => ktr_room
              case ku => ktr_units
              rintro r T5 h5 tk5 F5 N5 ⟨rfl, ws2, hw2, rfl⟩
              replace N5 : News g3 L3 h5 ((D0, listOf ((vl.take lo ++ ws1 ++ vl.drop mid).take mid ++ ws2 ++ (vl.take lo ++ ws1 ++ vl.drop mid).drop hi).toArray 0) :: R2) := N5
              k_steps
              rename Fr h20 L2 _ _ => FZ
              rename News h20 L2 _ _ => NY
              refine hret2 _ _ _ _ FZ NY ⟨rfl, ws1 ++ ws2, ?_, ?_⟩
              · rw [← digs_join (n := n.toNat) (x := x) (lo := lo) (mid := mid) (hi := hi) (by omega) (by omega)]
                exact IntsAre.append hw1 hw2
              · rw [put_join (by omega) (by omega) (by assumption) hwl]
        have hbig : 0 ≤ a0 ∧ a0 < 2 ^ (n.toNat * (vl0.length - 0)) := by
          refine ⟨ha, ?_⟩
          rw [Nat.sub_zero, hl0, hfd, Int.toNat_natCast]
          exact figs_big (by omega) ha
        have hvn : vl0.length = figs n.toNat a0 := by rw [hl0, hfd, Int.toNat_natCast]
        have hpos := figs_pos (n := n.toNat) (a := a0) (by omega) (by assumption)
        have inn := fun ta tb tc => inner vl0.length 0 vl0.length a0 ta tb tc vl0 (by omega) (by omega) (Nat.le_refl _) (by omega) hbig (by omega)
        simp only [show ((0 : Nat) : Int) = 0 from rfl] at inn
        k_dflt (refine' specT_use (inn _ _ _) ?k1 ?k2 ?k3 ?k4 ?k5 ?kK ?ks ?kd ?ku ?_; (case k1 => k_asm); (case k2 => k_asm); (case k3 => k_asm); (case k4 => k_asm); (case k5 => k_asm); (case kK => exact rfl); (case ks => exact fun _ h => h))
        case kd => ktr_room
        case ku => ktr_units
        rintro r T5 h5 tk5 F5 N5 ⟨rfl, ws, hw, rfl⟩
        replace N5 : News g' L' h5 ((D0, listOf ws.toArray 0) :: R2) := by
          rw [List.take_zero, List.nil_append, List.drop_length, List.append_nil] at N5
          exact N5
        k_steps
        rename Fr h₀ L _ _ => FZ
        rename News h₀ L _ _ => NY
        obtain ⟨A', NA, hA⟩ := tab_exit (P := 44) (li := 73) (co := 4) (q := Str.ofString "_int2digits.<locals>.inner") (R := (D0, listOf ws.toArray 0) :: R) NY (by k_mem) (by k_mem)
          (fun p hp => by
            rcases List.mem_cons.mp hp with rfl | hp
            · exact List.Mem.head _
            · exact List.Mem.tail _ (hin p (by rw [hBl]; repeat (first | exact hp | apply List.Mem.tail)) (allNe_lt lR (by show @LE.le Nat _ _ _; omega) p hp))) (by assumption) (by assumption)
        rw [Nat.sub_zero, hvn] at hw
        exact hret _ _ _ _ FZ NA ⟨_, ws, A', rfl, hw, rfl, hA, allLt_le lR (by show @LE.le Nat _ _ _; omega)⟩
      · rename IntsAre _ _ => hi0
        rename List.length _ = _ => hl0
        have e0 : a0 = 0 := by assumption
        subst e0
        rw [hfd, figs_zero (by omega)] at hl0
        rename Fr h₀ L _ _ => FZ
        rename News h₀ L _ _ => NY
        obtain ⟨A', NA, hA⟩ := tab_exit (P := 44) (li := 73) (co := 4) (q := Str.ofString "_int2digits.<locals>.inner") (R := (_, listOf (List.toArray _) 0) :: R) NY (by repeat (first | exact List.Mem.head _ | apply List.Mem.tail)) (by repeat (first | exact List.Mem.head _ | apply List.Mem.tail))
          (fun p hp => by
            rcases List.mem_cons.mp hp with rfl | hp
            · repeat (first | exact List.Mem.head _ | apply List.Mem.tail)
            · repeat (first | exact hp | apply List.Mem.tail)) (by assumption) (by assumption)
        refine hret _ _ _ _ FZ NA ⟨_, _, A', rfl, ?_, rfl, hA, allLt_le lR (by show @LE.le Nat _ _ _; omega)⟩
        have e1 := List.length_eq_zero_iff.mp hl0
        rw [e1, figs_zero (by omega)]
        exact IntsAre.nil
theorem i2d_spec (w : World) (loose mean mg mb) (R Tb : Led) (hT : Tabs 51 44 Tb) (hC : Cl R) (n a0 : Int) (t1 t2 : Tok) (hn : 0 < n ∧ n < 5000) (ha : 0 ≤ a0) (hkf : figs n.toNat a0 < 200) :
   SpecT PySem.Challenge.pw_wf0044_03 w (Mine.hd.heap_39 w.params) topProg loose mean mg mb 250 2000 49 [.int a0 t1, .int n t2] (R ++ Tb) (fun v T' => ∃ D vs, v = .ref D ∧ IntsAre vs (digs n.toNat (figs n.toNat a0) a0) ∧ (∀ q ∈ R, q.1 < D) ∧ ∃ Tb', T' = (D, listOf vs.toArray 0) :: (R ++ Tb') ∧ Tabs 51 44 Tb') :=
  SpecT.tabB hT hC (by decide) fun T R₀ hR h => i2d_in w loose mean mg mb T R₀ h n a0 t1 t2 hn ha hkf
end Mine
end
section
open PySem PySem.W PyProof.Rows PySem.Calls
set_option maxRecDepth 100000
namespace Mine
local macro_rules | `(tactic| k_mem) => `(tactic| assumption)
local macro_rules | `(tactic| k_all) => `(tactic| first | assumption | (refine allNe_lt (by assumption) ?_; show @LE.le Nat _ _ _; omega))
local macro_rules | `(tactic| walk_at "call builtin:divmod") => `(tactic| (k_here; (with_reducible show wpAny _ _ (call (Value.builtin _) [Value.int _ _, Value.int _ _]) _ _ _); k_dflt (refine' divmod_K ?k1 ?k2 ?k3 ?k4 ?_; (case k1 => k_asm); (case k2 => k_asm); (case k3 => assumption); (case k4 => assumption); k_whole); intro D' h' t1' t2' tk' F' N' l1; (try k_lt l1); (try k_sweep)))
noncomputable def dmPost (x y : Int) (v : Value) (new : Led) : Prop := ∃ D u1 u2, v = .ref D ∧ new = [(D, tupObj [.int x u1, .int y u2])]
set_option exponentiation.threshold 6000 in
set_option maxHeartbeats 8000000 in
theorem d21_spec (w : World) (loose mean mg mb) (T : Led) (x y n : Int) (t1 t2 t3 : Tok) (hx : ((Builtin.Int.intBits x : Nat) : Int) - n ≤ 4000) (hy : 0 < y) (hys : y.natAbs < 2 ^ 5000) :
   Spec PySem.Challenge.pw_wf0044_03 w (Mine.hd.heap_39 w.params) topProg loose mean mg mb 5 20 35 [.int x t1, .int y t2, .int n t3] T (dmPost (x / y) (x % y)) := by
  unfold Spec
  intro dp un gd cn cs a ccd cl outer A₀ base h₀ L m s Q E B F X N Tp hk hd hu hret
  refine wpAny_call ?_
  have hk0 : (PySem.Challenge.rw_wf0044_03 = PySem.Challenge.rw_wf0044_03 ∧ Mine.hd.heap_39 = Mine.hd.heap_39) := by (k_fill; exact ⟨rfl, rfl⟩)
  clear hk0
  k_dflt ktr_enter
  k_steps
  exact hret1 hret (by assumption) (by assumption) (by assumption) ⟨_, _, _, rfl, rfl⟩
end Mine
end
section
open PySem PySem.W PyProof.Rows PySem.Calls
set_option maxRecDepth 100000
namespace Mine
local macro_rules | `(tactic| k_mem) => `(tactic| first | assumption | exact List.Mem.tail _ (by assumption))
local macro_rules | `(tactic| k_all) => `(tactic| first | assumption | (refine allNe_lt (by assumption) ?_; show @LE.le Nat _ _ _; omega))
local macro_rules | `(tactic| walk_at "call ref") => `(tactic| (k_here; refine Stop.mk ?_))
local macro_rules | `(tactic| walk_at "pyIter ref") => `(tactic| (k_here; refine Stop.mk ?_))
local macro_rules | `(tactic| walk_at "binaryOp LShift int int") => `(tactic| (k_here; refine lshift_K (by assumption) (by assumption) ?_))
local macro_rules | `(tactic| walk_at "call builtin:list.append") => `(tactic| (k_here; (with_reducible show wpAny _ _ (call (Value.builtin _) [Value.ref _, _]) _ _ _); k_dflt (refine' append_lK ?k1 ?k2 ?k3 ?k4 ?_; (case k1 => k_asm); (case k2 => k_asm); (case k3 => k_upd); (case k4 => assumption); k_whole); intro h' F' N'; (try k_sweep)))
local macro_rules | `(tactic| walk_at "call builtin:list.reverse") => `(tactic| (k_here; (with_reducible show wpAny _ _ (call (Value.builtin _) [Value.ref _]) _ _ _); k_dflt (refine' reverse_lK ?k1 ?k2 ?k3 ?k4 ?_; (case k1 => k_asm); (case k2 => k_asm); (case k3 => k_upd); (case k4 => assumption); k_whole); intro h' F' N'; (try k_sweep)))
set_option exponentiation.threshold 6000 in
set_option maxHeartbeats 8000000 in
theorem dmp_spec (w : World) (loose mean mg mb) (R Tb : Led) (hT : Tabs 51 44 Tb) (hC : Cl R) (x y : Int) (t1 t2 : Tok) (hx : 0 ≤ x) (hy : 0 < y) (hys : y.natAbs < 2 ^ 2000) (hkf : figs (Builtin.Int.intBits y) x < 200) :
   SpecT PySem.Challenge.pw_wf0044_03 w (Mine.hd.heap_39 w.params) topProg loose mean mg mb 300 2200 63 [.int x t1, .int y t2] (R ++ Tb) (fun v T' => ∃ D u1 u2 Tb', v = .ref D ∧ (∀ q ∈ R, q.1 < D) ∧ T' = (D, tupObj [.int (x / y) u1, .int (x % y) u2]) :: (R ++ Tb') ∧ Tabs 51 44 Tb') := by
  unfold SpecT
  intro dp un gd cn cs a ccd cl outer A₀ base h₀ L m s Q E B F X N Tp hk hd hu hret
  refine wpAny_call ?_
  have hk0 : (PySem.Challenge.rw_wf0044_03 = PySem.Challenge.rw_wf0044_03 ∧ Mine.hd.heap_39 = Mine.hd.heap_39) := by (k_fill; exact ⟨rfl, rfl⟩)
  clear hk0
  k_dflt ktr_enter
  k_steps
  refine Stop.in ?_
  have hb0 : 0 < Builtin.Int.intBits y := by
    unfold Builtin.Int.intBits
    rw [if_neg (by simp; omega)]
    omega
  have hb1 : Builtin.Int.intBits y ≤ 2000 := PySem.intBits_le_iff.mpr hys
  k_dflt (refine' specT_use (i2d_spec w loose mean mg mb R Tb hT hC _ x _ _ ⟨by omega, by omega⟩ hx (by rw [Int.toNat_natCast]; exact hkf)) ?k1 ?k2 ?k3 ?k4 ?k5 ?kK ?ks ?kd ?ku ?_; (case k1 => k_asm); (case k2 => k_asm); (case k3 => k_asm); (case k4 => k_asm); (case k5 => k_asm); (case kK => exact rfl); (case ks => exact fun _ h => h))
  case kd => ktr_room
  case ku => ktr_units
  rintro rv T4 h4 tk4 F4 N4 ⟨D, vs, rfl, hi, hlt, Tb', rfl, hT'⟩
  dsimp only at F4 N4
  obtain ⟨W, hW⟩ : ∃ W, W = R ++ Tb' := ⟨_, rfl⟩
  rw [← hW] at N4
  k_steps
  refine Stop.in ?_
  (rename News _ _ _ _ => Nn)
  (rename Fr _ _ _ _ => FF)
  have hvl := hi.length
  refine with_obj (listOf #[] 0) Nn (by repeat (first | exact List.Mem.head _ | apply List.Mem.tail)) fun D2 hD2 => ?_
  subst hD2
  refine with_fr FF fun m0 hm0 F0 => ?_
  rename _ ∧ AllLt D2 W => lD2
  obtain ⟨lD, lW⟩ := lD2
  refine iter_revJ (vs := vs) (k := 0) (J := fun rest m led => ∃ u rv tr qv kq dsL dsH, m = (fun z => if z = Str.ofString "r" then some (.int rv tr) else mapD [Str.ofString "r", Str.ofString "q_digit", Str.ofString "a_digit"] u m0 z) ∧ led = (D2, listOf (List.toArray qv) kq) :: (D, listOf vs.toArray 0) :: W ∧
      IntsAre rest.reverse dsL ∧ dsL ++ dsH = digs (Builtin.Int.intBits y) (figs (Builtin.Int.intBits y) x) x ∧ rv = (ldiv (Builtin.Int.intBits y) y dsH).2 ∧ IntsAre qv (ldiv (Builtin.Int.intBits y) y dsH).1.reverse)
     rfl F0 Nn ?_ ?_ ?_ ?_ ?_ ?_
  · k_dflt k_all
  · exact .tail _ (.head _)
  · rintro r m led ⟨u, rv, tr, qv, kq, dsL, dsH, rfl, rfl, _⟩
    exact .tail _ (.head _)
  · subst hm0
    rw [Int.toNat_natCast] at hi
    exact ⟨_, 0, _, [], 0, _, [], map_one rfl map_self, rfl, by rw [List.reverse_reverse]; exact hi, List.append_nil _, rfl, IntsAre.nil⟩
  · subst hm0
    rintro v r m1 led h tk it ⟨u, rv, tr, qv, kq, dsL, dsH, rfl, rfl, hL, hds, hrv, hqv⟩ hoI hic FT NT
    rw [List.reverse_cons] at hL
    obtain ⟨d, td, dsL', rfl, rfl, hL'⟩ := ints_snoc hL
    have hdr : ∀ z ∈ (dsL' ++ [d]) ++ dsH, 0 ≤ z ∧ z < 2 ^ Builtin.Int.intBits y := by rw [hds]; exact digs_rng _ _
    have hdd := hdr d (by simp)
    have hr := ldiv_rem (n := Builtin.Int.intBits y) hy dsH
    rw [← hrv] at hr
    have hyb := bits_lt hy
    have hS : Small rv := small_pow (k := 2000) (Nat.lt_of_lt_of_le (Int.natAbs_lt_natAbs_of_nonneg_of_lt hr.1 hr.2) (Nat.le_of_lt hys)) (by unfold big; omega)
    have hsh : 0 ≤ ((Builtin.Int.intBits y : Nat) : Int) ∧ ((Builtin.Int.intBits y : Nat) : Int) ≤ 10000000 := by omega
    have hsb := step_bits hb1 ⟨hr.1, by omega⟩ hdd
    k_steps
    refine Stop.in ?_
    have hys5 : y.natAbs < 2 ^ 5000 := Nat.lt_of_lt_of_le hys (Nat.pow_le_pow_right (by decide) (by decide))
    k_dflt (refine' spec_use (d21_spec w loose mean mg mb _ _ y _ _ _ _ (by rw [Int.toNat_natCast]; exact hsb) hy hys5) ?k1 ?k2 ?k3 ?k4 ?k5 ?kK ?kd ?ku ?_; (case k1 => k_asm); (case k2 => k_asm); (case k3 => k_asm); (case k4 => k_asm); (case k5 => k_asm); (case kK => exact rfl))
    case kd => ktr_room
    case ku => ktr_units
    rintro rv5 new5 h5 tk5 F5 N5 l5 ⟨Dt, u1, u2, rfl, rfl⟩
    dsimp only at F5 N5
    have hql : qv.length < 1000000 := by rw [hqv.length, List.length_reverse, ldiv_len]; have := congrArg List.length hds; rw [digs_len, List.length_append] at this; omega
    have ne2 : @Ne Nat D2 _ := hoI _ (.head _)
    have lt2 : @LT.lt Nat _ D2 Dt := l5 _ (.tail _ (.head _)) _ (.head _)
    k_steps
    rename Fr _ _ _ _ => FZ
    rename News _ _ _ _ => NZ
    refine TurnJ.fin1 FZ NZ ?_ ?_
    · intro p hp
      rcases List.mem_cons.mp hp with rfl | hp
      · exact ne2
      · exact hoI p (.tail _ hp)
    refine ⟨_, _, _, _, _, dsL', d :: dsH, map_one rfl (by repeat (first | exact map_base | refine map_peel (by decide) ?_)), rfl, ?_, ?_, ?_, ?_⟩
    · exact hL'
    · rw [← hds, List.append_assoc]; rfl
    · rw [ldiv, hrv, Int.toNat_natCast]
    · rw [ldiv, List.reverse_cons]
      refine hqv.append ?_
      rw [← hrv, Int.toNat_natCast]
      exact IntsAre.cons _ _ IntsAre.nil
  · subst hm0
    rintro m1 led h tk ⟨u, rv, tr, qv, kq, dsL, dsH, rfl, rfl, hL, hds, hrv, hqv⟩ FT NT
    have e0 : dsL = [] := by cases hL; rfl
    subst e0
    rw [List.nil_append] at hds
    have hql : qv.length < 1000000 := by rw [hqv.length, List.length_reverse, ldiv_len, hds, digs_len]; omega
    have hxb := figs_big (n := Builtin.Int.intBits y) hb0 hx
    have hval := ldiv_val (n := Builtin.Int.intBits y) hy dsH
    rw [hds, dnum_digs _ x ⟨hx, hxb⟩, ← hds] at hval
    k_steps
    refine Stop.in ?_
    have hqi := ints_rev hqv
    rw [List.reverse_reverse] at hqi
    have hdig : ∀ d ∈ (ldiv (Builtin.Int.intBits y) y dsH).1, d.natAbs < 2 ^ 5000 := fun d hd => by
      have h1 := ldiv_rng (n := Builtin.Int.intBits y) hy dsH (by rw [hds]; exact digs_rng _ _) d hd
      exact Nat.lt_of_lt_of_le (natAbs_lt_pow h1.1 h1.2) (Nat.pow_le_pow_right (by decide) (by omega))
    have hlen : (ldiv (Builtin.Int.intBits y) y dsH).1.length < 200 := by rw [ldiv_len, hds, digs_len]; exact hkf
    k_dflt (refine' specT_use (d2i_spec w loose mean mg mb ((D2, listOf qv.reverse.toArray kq) :: R) Tb' hT' (Cl.cons (by simp) hC) D2 _ _ kq _ _ (List.Mem.head _) hqi hlen ⟨by omega, by omega⟩ hdig) ?k1 ?k2 ?k3 ?k4 ?k5 ?kK ?ks ?kd ?ku ?_; (case k1 => k_asm); (case k2 => k_asm); (case k3 => k_asm); (case k4 => k_asm); (case k5 => k_asm); (case kK => exact rfl))
    case ks =>
      intro q hq
      rcases List.mem_cons.mp hq with rfl | hq
      · exact List.Mem.head _
      · exact List.Mem.tail _ (List.Mem.tail _ (by rw [hW]; exact hq))
    case kd => ktr_room
    case ku => ktr_units
    rintro rv6 T6 h6 tk6 F6 N6 ⟨⟨t6, rfl⟩, Tb6, rfl, hT6⟩
    dsimp only at F6 N6
    rw [Int.toNat_natCast, hval.1, hrv, hval.2] at *
    obtain ⟨W6, hW6⟩ : ∃ W6, W6 = (D2, listOf qv.reverse.toArray kq) :: R ++ Tb6 := ⟨_, rfl⟩
    rw [← hW6] at N6
    k_steps
    rename Fr h₀ L _ _ => FZ
    rename News h₀ L _ _ => NZ
    rename ∀ p ∈ W6, _ => l6
    have NQ := news_hd (T2 := R ++ Tb6) NZ (fun q hq => by rw [hW6]; exact List.Mem.tail _ hq)
    refine hret _ _ _ _ FZ NQ ⟨_, _, _, Tb6, rfl, ?_, rfl, hT6⟩
    intro q hq
    exact l6 q (by rw [hW6]; exact List.Mem.tail _ (List.mem_append_left _ hq))
end Mine
end
section
open PySem PySem.W PyProof.Rows PySem.Calls
set_option maxRecDepth 100000
namespace Mine
local macro_rules | `(tactic| k_mem) => `(tactic| first | assumption | exact List.Mem.tail _ (by assumption))
local macro_rules | `(tactic| walk_at "call ref") => `(tactic| (k_here; refine Stop.mk ?_))
noncomputable def dmT (P P' : Addr) (R : Led) (x y : Int) (v : Value) (T' : Led) : Prop := ∃ D u1 u2 Tb', v = .ref D ∧ (∀ q ∈ R, q.1 < D) ∧ T' = (D, tupObj [.int (x / y) u1, .int (x % y) u2]) :: (R ++ Tb') ∧ Tabs P P' Tb'
set_option exponentiation.threshold 6000 in
set_option maxHeartbeats 8000000 in
theorem idm_spec (w : World) (loose mean mg mb) (R Tb : Led) (hT : Tabs 51 44 Tb) (hC : Cl R) (x y : Int) (t1 t2 : Tok) (hx : 0 ≤ x) (hy : 0 < y) (hys : y.natAbs < 2 ^ 2000) (hkf : figs (Builtin.Int.intBits y) x < 200) :
   SpecT PySem.Challenge.pw_wf0044_03 w (Mine.hd.heap_39 w.params) topProg loose mean mg mb 310 2300 70 [.int x t1, .int y t2] (R ++ Tb) (dmT 51 44 R x y) := by
  unfold SpecT
  intro dp un gd cn cs a ccd cl outer A₀ base h₀ L m s Q E B F X N Tp hk hd hu hret
  refine wpAny_call ?_
  have hk0 : (PySem.Challenge.rw_wf0044_03 = PySem.Challenge.rw_wf0044_03 ∧ Mine.hd.heap_39 = Mine.hd.heap_39) := by (k_fill; exact ⟨rfl, rfl⟩)
  clear hk0
  k_dflt ktr_enter
  k_steps
  first | (· exfalso; omega) | skip
  refine Stop.in ?_
  k_dflt (refine' specT_use (dmp_spec w loose mean mg mb R Tb hT hC x y _ _ hx hy hys hkf) ?k1 ?k2 ?k3 ?k4 ?k5 ?kK ?ks ?kd ?ku ?_; (case k1 => k_asm); (case k2 => k_asm); (case k3 => k_asm); (case k4 => k_asm); (case k5 => k_asm); (case kK => exact rfl); (case ks => exact fun _ h => h))
  case kd => ktr_room
  case ku => ktr_units
  rintro rv6 T6 h6 tk6 F6 N6 ⟨D, u1, u2, Tb6, rfl, l6, rfl, hT6⟩
  dsimp only at F6 N6
  k_steps
  rename Fr h₀ L _ _ => FZ
  rename News h₀ L _ _ => NZ
  exact hret _ _ _ _ FZ NZ ⟨_, _, _, Tb6, rfl, l6, rfl, hT6⟩
end Mine
end
section
open PySem PySem.W PyProof.Rows PySem.Calls
set_option maxRecDepth 100000
set_option exponentiation.threshold 6000
namespace Mine
noncomputable def figs3 (w : Nat) (x : Int) : List Int := digs w 3 (x % (2 ^ (3 * w) - 1))
noncomputable def figPost (w : Nat) (x : Int) (R : Led) (v : Value) (T' : Led) : Prop := ∃ D vs k Tb', v = .ref D ∧ IntsAre vs (figs3 w x) ∧ (∀ q ∈ R, q.1 ≠ D) ∧ T' = (D, listOf vs.toArray k) :: (R ++ Tb') ∧ Tabs 51 44 Tb'
local macro_rules | `(tactic| k_mem) => `(tactic| first | assumption | exact List.Mem.tail _ (by assumption))
local macro_rules | `(tactic| walk_at "call ref") => `(tactic| (k_here; refine Stop.mk ?_))
local macro_rules | `(tactic| walk_at "call builtin:len") => `(tactic| (k_here; (with_reducible show wpAny _ _ (call (Value.builtin "len") [Value.ref _]) _ _ _); k_dflt (refine' len_lK ?k1 ?k2 ?k3 ?_; (case k1 => k_asm); (case k2 => k_mem)); (case k3 => (show _; omega)); k_whole; intro _))
local macro_rules | `(tactic| walk_at "binaryOp Mult ref int") => `(tactic| (k_here; k_dflt (refine' rep_K ?k1 ?k2 ?k3 ?k4 ?_; (case k1 => k_asm); (case k2 => k_asm); (case k3 => k_mem); (case k4 => assumption); k_whole); intro D' h' vs' F' N' l1 i1 n1; (try k_lt l1)))
local macro_rules | `(tactic| walk_at "binaryOp Add ref ref") => `(tactic| (k_here; k_dflt (refine' cat_K ?k1 ?k2 ?k3 ?k4 ?k5 ?_; (case k1 => k_asm); (case k2 => k_asm); (case k3 => k_mem); (case k4 => k_mem); (case k5 => (show _; omega)); k_whole); intro D' h' F' N' l1; (try k_lt l1); (try k_sweep)))
set_option maxHeartbeats 8000000 in
theorem figures_spec (w : World) (loose mean mg mb) (R Tb : Led) (hT : Tabs 51 44 Tb) (hC : Cl R) (x n : Int) (t1 t2 : Tok) (hx : 0 ≤ x ∧ x < 2 ^ 1000) (hn : 6 ≤ n ∧ n < 30) :
   SpecT PySem.Challenge.pw_wf0044_03 w (Mine.hd.heap_39 w.params) topProg loose mean mg mb 330 2500 120 [.int x t1, .int n t2] (R ++ Tb) (figPost n.toNat x R) := by
  unfold SpecT
  intro dp un gd cn cs a ccd cl outer A₀ base h₀ L m s Q E B F X N Tp hk hd hu hret
  refine wpAny_call ?_
  have hk0 : (PySem.Challenge.rw_wf0044_03 = PySem.Challenge.rw_wf0044_03 ∧ Mine.hd.heap_39 = Mine.hd.heap_39) := by (k_fill; exact ⟨rfl, rfl⟩)
  clear hk0
  k_dflt ktr_enter
  k_steps
  refine Stop.in ?_
  have hn3 : (3 * n).toNat = 3 * n.toNat := by omega
  have hy : (0 : Int) < 2 ^ (3 * n).toNat - 1 := pow1_pos (by omega)
  have hys : (2 ^ (3 * n).toNat - 1 : Int).natAbs < 2 ^ 2000 := pow1_abs (by omega)
  have hkf : figs (Builtin.Int.intBits (2 ^ (3 * n).toNat - 1)) x < 200 := by
    rw [bits_pow1 (by omega)]
    refine Nat.lt_of_le_of_lt (figs_small (m := 199) (by omega) (Nat.lt_of_lt_of_le (abs_lt hx) (Nat.pow_le_pow_right (by decide) ?_))) (by omega)
    exact Nat.le_trans (by omega : 1000 ≤ 18 * 199) (Nat.mul_le_mul_right _ (by omega))
  k_dflt (refine' specT_use (idm_spec w loose mean mg mb R Tb hT hC x _ _ _ hx.1 hy hys hkf) ?k1 ?k2 ?k3 ?k4 ?k5 ?kK ?ks ?kd ?ku ?_; (case k1 => k_asm); (case k2 => k_asm); (case k3 => k_asm); (case k4 => k_asm); (case k5 => k_asm); (case kK => exact rfl); (case ks => exact fun _ h => h))
  case kd => ktr_room
  case ku => ktr_units
  rintro rv6 T6 h6 tk6 F6 N6 ⟨D, u1, u2, Tb6, rfl, l6, rfl, hT6⟩
  dsimp only at F6 N6
  obtain ⟨W, hW⟩ : ∃ W, W = R ++ Tb6 := ⟨_, rfl⟩
  rw [← hW] at N6
  have hrem := rem_pow1 (x := x) (a := (3 * n).toNat) (by omega)
  obtain ⟨y, hy'⟩ : ∃ y, y = x % (2 ^ (3 * n).toNat - 1) := ⟨_, rfl⟩
  rw [← hy'] at hrem
  simp only [← hy'] at N6
  have hfg := digs_figs (n := n.toNat) (j := 3) (a := y) (by omega) hrem.1 (by rw [Nat.mul_comm, ← hn3]; exact hrem.2)
  k_steps
  refine Stop.in ?_
  k_dflt (refine' specT_use (i2d_spec w loose mean mg mb R Tb6 hT6 hC n y _ _ (by omega) hrem.1 (by omega)) ?k1 ?k2 ?k3 ?k4 ?k5 ?kK ?ks ?kd ?ku ?_; (case k1 => k_asm); (case k2 => k_asm); (case k3 => k_asm); (case k4 => k_asm); (case k5 => k_asm); (case kK => exact rfl); (case ks => rw [← hW]; exact fun _ h => .tail _ h))
  case kd => ktr_room
  case ku => ktr_units
  rintro rv7 T7 h7 tk7 F7 N7 ⟨D7, vs7, rfl, i7, l7, Tb7, rfl, hT7⟩
  (try dsimp only at F7 N7)
  obtain ⟨W7, hW7⟩ : ∃ W, W = R ++ Tb7 := ⟨_, rfl⟩
  rw [← hW7] at N7
  have hl7 : vs7.length = figs n.toNat y := by rw [i7.length, len_figs]
  have hr7 : 0 ≤ 3 - (vs7.length : Int) ∧ 3 - (vs7.length : Int) < 1000000 := by omega
  k_steps
  rename Fr h₀ L _ _ => FZ
  rename News h₀ L _ _ => NZ
  rename IntsAre _ (List.replicate _ 0) => iz
  have NY := news_hd (T2 := R ++ Tb7) NZ (fun q hq => .tail _ (.tail _ (.tail _ (hW7 ▸ hq))))
  refine hret _ _ _ _ FZ NY ⟨_, _, _, Tb7, rfl, ?_, ?_, rfl, hT7⟩
  · rw [figs3, ← hn3, ← hy', ← hfg.2, show 3 - figs n.toNat y = (3 - (vs7.length : Int)).toNat from by omega]
    exact i7.append iz
  · intro q hq
    rename _ ∧ _ ∧ _ ∧ AllLt _ W7 => lZ
    exact allLt_neOf lZ.2.2.2 q (hW7 ▸ List.mem_append_left _ hq)
end Mine
end
section
open PySem PySem.W PyProof.Rows PySem.Calls
open PyProof.Rows.LCg
set_option maxRecDepth 100000
set_option exponentiation.threshold 6000
namespace Mine
noncomputable def num3 (x : Int) : Nat → Int | 0 => x | i + 1 => num3 x i / 3
noncomputable def figAt (x : Int) (i : Nat) : List Int := (List.range i).map fun j => num3 x j % 3
theorem figAt_succ {x : Int} {i : Nat} : figAt x (i + 1) = figAt x i ++ [num3 x i % 3] := by
  unfold figAt; rw [List.range_succ, List.map_append]; rfl
theorem num3_rng {x : Int} (h : 0 ≤ x ∧ x < 27) : ∀ i, 0 ≤ num3 x i ∧ num3 x i < 27
  | 0 => h
  | i + 1 => by have := num3_rng h i; rw [num3]; omega
noncomputable def bdTurn (n : Int) (fs : Int × Int) (st : Int × Int) : Int × Int :=
  let side := 2 ^ (n * fs.2).toNat
  let light := st.1 * (2 + side)
  let light := if 0 < fs.1 then light + st.2 else light
  let light := if fs.1 = 2 then light + st.2 * side else light
  (light, if fs.1 = 1 then st.2 * side else st.2)
noncomputable def bdAt (n f : Int) (fs : List (Int × Int)) (i : Nat) : Int × Int := (fs.take i).foldl (fun st p => bdTurn n p st) (0, 2 ^ (n * f).toNat)
theorem bdAt_succ {n f : Int} {fs : List (Int × Int)} {i : Nat} {p : Int × Int} (h : fs[i]? = some p) : bdAt n f fs (i + 1) = bdTurn n p (bdAt n f fs i) := by
  unfold bdAt
  rw [List.take_add_one, h, Option.toList_some, List.foldl_append]; rfl
theorem side_rng {n s : Int} (hn : 6 ≤ n ∧ n < 14) (hs : s = 1 ∨ s = 2) : (0 : Int) ≤ 2 ^ (n * s).toNat ∧ (2 : Int) ^ (n * s).toNat < 2 ^ 27 := by
  refine pow2_lt ?_
  rcases hs with rfl | rfl <;> omega
theorem bdAt_rng {n f : Int} {fs : List (Int × Int)} (hn : 6 ≤ n ∧ n < 14) (hf : 0 ≤ n * f ∧ n * f < 27) (hs : ∀ p ∈ fs, p.2 = 1 ∨ p.2 = 2) : ∀ i, (0 ≤ (bdAt n f fs i).1 ∧ (bdAt n f fs i).1 < 2 ^ (60 * i + 60)) ∧ (0 ≤ (bdAt n f fs i).2 ∧ (bdAt n f fs i).2 < 2 ^ (27 * i + 30))
  | 0 => ⟨⟨Int.le_refl _, pow_pos2⟩, by
      show 0 ≤ (2 : Int) ^ (n * f).toNat ∧ (2 : Int) ^ (n * f).toNat < 2 ^ (27 * 0 + 30)
      exact pow2_lt (by omega)⟩
  | i + 1 => by
    obtain ⟨h1, h2⟩ := bdAt_rng (i := i) hn hf hs
    cases e : fs[i]? with
    | none =>
      have e' : bdAt n f fs (i + 1) = bdAt n f fs i := by unfold bdAt; rw [List.take_add_one, e]; simp
      rw [e']
      exact ⟨lt2_mono h1 (by omega), lt2_mono h2 (by omega)⟩
    | some p =>
      rw [bdAt_succ e]
      have hsd := side_rng hn (hs p (List.mem_of_getElem? e))
      have hs2 : 0 ≤ (2 : Int) + 2 ^ (n * p.2).toNat ∧ (2 : Int) + 2 ^ (n * p.2).toNat < 2 ^ 28 := by
        have : (2 : Int) ^ 28 = 2 * 2 ^ 27 := by decide
        omega
      have m1 := lt2_mono (mul_lt2 h1 hs2) (show 60 * i + 60 + 28 ≤ 60 * i + 90 by omega)
      have m2 := lt2_mono h2 (show 27 * i + 30 ≤ 60 * i + 90 by omega)
      have m3 := mul_lt2 h2 hsd
      have m3' := lt2_mono m3 (show 27 * i + 30 + 27 ≤ 60 * i + 91 by omega)
      unfold bdTurn
      dsimp only
      generalize (2 : Int) ^ (n * p.2).toNat = side at *
      generalize (bdAt n f fs i).1 = l at *
      generalize (bdAt n f fs i).2 = st at *
      refine ⟨?_, ?_⟩
      · have a1 : 0 ≤ (if 0 < p.1 then l * (2 + side) + st else l * (2 + side)) ∧ (if 0 < p.1 then l * (2 + side) + st else l * (2 + side)) < 2 ^ (60 * i + 91) := by
          split
          · exact add_lt2 m1 m2
          · exact lt2_mono m1 (by omega)
        generalize (if 0 < p.1 then l * (2 + side) + st else l * (2 + side)) = l2 at *
        split
        · exact lt2_mono (add_lt2 a1 m3') (by omega)
        · exact lt2_mono a1 (by omega)
      · split
        · exact lt2_mono m3 (by omega)
        · exact lt2_mono h2 (by omega)
local macro_rules | `(tactic| walk_at "binaryOp Mult int int") => `(tactic| (k_here; refine mul_K (by assumption) (by assumption) ?_))
local macro_rules | `(tactic| k_mem) => `(tactic| first | assumption | (apply List.Mem.tail; k_mem))
local macro_rules | `(tactic| k_all) => `(tactic| first | assumption | (refine allNe_lt (by assumption) ?_; show @LE.le Nat _ _ _; omega))
local macro_rules | `(tactic| walk_at "call ref") => `(tactic| (k_here; refine Stop.mk ?_))
local macro_rules | `(tactic| walk_at "pyIter ref") => `(tactic| (k_here; refine Stop.mk ?_))
local macro_rules | `(tactic| walk_at "call type:zip") => `(tactic| (k_here; refine Stop.mk ?_))
local macro_rules | `(tactic| walk_at "exec For Name Name cons nil") => `(tactic| (k_here; k_dflt (refine For_J (by k_asm) (by rfl) (by rfl) ?_ (by with_unfolding_all passes_own))))
local macro_rules | `(tactic| walk_at "exec For Tuple Call") => `(tactic| (k_here; k_dflt (refine For_Z (by k_asm) (by rfl) (by rfl) (by rfl) (by rfl) ?_ (by with_unfolding_all passes_own))))
local macro_rules | `(tactic| walk_at "call builtin:list.append") => `(tactic| (k_here; (with_reducible show wpAny _ _ (call (Value.builtin _) [Value.ref _, _]) _ _ _); k_dflt (refine' append_lK ?k1 ?k2 ?k3 ?k4 ?_; (case k1 => k_asm); (case k2 => k_asm); (case k3 => k_upd); (case k4 => assumption); k_whole); intro h' F' N'; (try k_sweep)))
noncomputable def bdPost (w : Nat) (R : Led) (st : Int × Int) (v : Value) (T' : Led) : Prop := ∃ Dt Da Db va vb ka kb Tb', v = .ref Dt ∧ T' = (Dt, tupObj [.ref Da, .ref Db]) :: (Db, listOf (List.toArray vb) kb) :: (Da, listOf (List.toArray va) ka) :: (R ++ Tb') ∧
  IntsAre va (figs3 w st.1) ∧ IntsAre vb (figs3 w st.2) ∧ Tabs 51 44 Tb'
set_option maxHeartbeats 8000000 in
theorem bydiv_spec (w : World) (loose mean mg mb) (R Tb : Led) (hT : Tabs 51 44 Tb) (hC : Cl R) (x n f : Int) (D1 : Addr) (k1 : Nat) (vs : List Value) (t1 t2 t3 : Tok) (sa sb sc : Int)
   (h1 : (D1, listOf vs.toArray k1) ∈ R) (i1 : IntsAre vs [sa, sb, sc]) (hs : ∀ s ∈ [sa, sb, sc], s = 1 ∨ s = 2) (hx : 0 ≤ x ∧ x < 27) (hn : 6 ≤ n ∧ n < 14) (hf : 0 ≤ f ∧ f < 3) :
   SpecT PySem.Challenge.pw_wf0044_03 w (Mine.hd.heap_39 w.params) topProg loose mean mg mb 350 2600 127 [.int x t1, .ref D1, .int f t2, .int n t3] (R ++ Tb) (bdPost n.toNat R (bdAt n f ((figAt x 3).reverse.zip [sc, sb, sa]) 3)) := by
  have hvl := i1.length
  unfold SpecT
  intro dp un gd cn cs a ccd cl outer A₀ base h₀ L m s Q E B F X N Tp hk hd hu hret
  refine wpAny_call ?_
  have hk0 : (PySem.Challenge.rw_wf0044_03 = PySem.Challenge.rw_wf0044_03 ∧ Mine.hd.heap_39 = Mine.hd.heap_39) := by (k_fill; exact ⟨rfl, rfl⟩)
  clear hk0
  k_dflt ktr_enter
  k_steps
  refine Stop.in ?_
  (rename News _ _ _ _ => Nn)
  (rename Fr _ _ _ _ => FF)
  refine with_fr FF fun m0 hm0 F0 => ?_
  refine name1 Nn fun Df hDf => ?_
  subst hDf
  have hRf : ∀ p ∈ R ++ Tb, p.1 ≠ Df := fun p hp => Nat.ne_of_lt (‹∀ p ∈ R ++ Tb, p.1 < Df› p hp)
  refine iter_listN (J := fun i m led => ∃ u tt ws k Tb', m = (fun z => if z = Str.ofString "number" then some (.int (num3 x i) tt) else mapD [Str.ofString "number", Str.ofString "figure", Str.ofString "sign"] u m0 z) ∧ led = (Df, listOf (List.toArray ws) k) :: (R ++ Tb') ∧
      ws.length = i ∧ IntsAre ws (figAt x i) ∧ Tabs 51 44 Tb' ∧ (∀ p ∈ R ++ Tb', p.1 ≠ Df))
     rfl (List.Mem.tail _ (List.mem_append_left _ h1)) ?_ F0 Nn ?_ ?_ ?_
  · rintro i m led ⟨u, tt, ws, k, Tb', rfl, rfl, _⟩
    exact .tail _ (List.mem_append_left _ h1)
  · subst hm0
    exact ⟨_, _, [], 0, Tb, map_one rfl map_self, rfl, rfl, .nil, hT, hRf⟩
  · subst hm0
    rintro I i v m1 led h tk it hv ⟨u, tt, ws, k, Tb', rfl, rfl, hwl, hws, hT', hne⟩ hoI _ hic FT NT
    have hil : i < 3 := by have := (List.getElem?_eq_some_iff.mp hv).1; simp only [List.length_cons, List.length_nil] at hvl; omega
    have hnr := num3_rng hx i
    k_steps
    refine Stop.in ?_
    k_dflt (refine' specT_use (idm_spec w loose mean mg mb ((I, it) :: (Df, listOf (List.toArray ws) k) :: R) Tb' hT' (Cl.cons (iterN hic) (Cl.cons (by simp) hC)) (num3 x i) 3 _ _ hnr.1 (by omega) (by decide) ?kq) ?k1 ?k2 ?k3 ?k4 ?k5 ?kK ?ks ?kd ?ku ?_; (case k1 => k_asm); (case k2 => k_asm); (case k3 => k_asm); (case k4 => k_asm); (case k5 => k_asm); (case kK => exact rfl); (case ks => exact fun _ h => h))
    case kd => ktr_room
    case ku => ktr_units
    case kq => exact Nat.lt_of_le_of_lt (figs_small (m := 10) (by decide) (Nat.lt_of_lt_of_le (m := 32) (by omega) (by decide))) (by omega)
    rintro rv6 T6 h6 tk6 F6 N6 ⟨D6, u1, u2, Tb6, rfl, l6, rfl, hT6⟩
    dsimp only at F6 N6
    have h6f : ∀ p ∈ Tb6, p.1 ≠ Df := tabs_ne hT6 N6 (fun p hp => .tail _ (List.mem_append_right _ hp)) (.tail _ (List.mem_append_left _ (.tail _ (.head _))))
    have h6i : ∀ p ∈ Tb6, p.1 ≠ I := tabs_neN hT6 N6 (fun p hp => .tail _ (List.mem_append_right _ hp)) (.tail _ (List.mem_append_left _ (.head _))) (iterN hic) hic.2
    have n2 : @Ne Nat I Df := Ne.symm (hoI (Df, _) (.head _))
    have n3 : @Ne Nat D6 Df := Nat.ne_of_gt (l6 (Df, _) (.tail _ (.head _)))
    simp only [List.cons_append] at N6
    have hW6 : ∀ p ∈ R ++ Tb6, p.1 ≠ Df := fun p hp => (List.mem_append.mp hp).elim (fun h => hne p (List.mem_append_left _ h)) (h6f p)
    have hI6 : ∀ p ∈ R ++ Tb6, p.1 ≠ I := fun p hp => (List.mem_append.mp hp).elim (fun h => hoI p (.tail _ (List.mem_append_left _ h))) (h6i p)
    have hwz : ws.length < 1000000 := by omega
    k_steps
    rename Fr _ _ _ _ => FZ
    rename News _ _ _ _ => NZ
    refine TurnJ.fin1 FZ NZ ?_ ⟨_, _, _, _, Tb6, map_one rfl (by repeat (first | exact map_base | refine map_peel (by decide) ?_)), rfl, by rw [List.length_append, hwl]; rfl, ?_, hT6, hW6⟩
    · intro p hp
      rcases List.mem_cons.mp hp with rfl | hp
      · exact Ne.symm n2
      · exact hI6 p hp
    · rw [figAt_succ]
      exact hws.append (.cons _ _ .nil)
  · subst hm0
    rintro m1 led h tk ⟨u, tt, ws, k, Tb', rfl, rfl, hwl, hws, hT', hne⟩ FT NT
    have hn3 : vs.length = 3 := hvl
    rw [hn3] at hwl hws
    have hnf : 0 ≤ n * f ∧ n * f < 27 := by
      have h1 := Int.mul_nonneg (show 0 ≤ n by omega) hf.1
      have h2 : n * f ≤ 13 * 2 := Int.mul_le_mul (by omega) (by omega) hf.1 (by omega)
      omega
    obtain ⟨W, hW⟩ : ∃ W, W = R ++ Tb' := ⟨_, rfl⟩
    have h1W : (D1, listOf vs.toArray k1) ∈ W := by rw [hW]; exact List.mem_append_left _ h1
    rw [← hW] at NT hne
    k_steps
    refine Stop.in ?_
    (rename News _ _ _ _ => NN2)
    (rename Fr _ _ _ _ => FF2)
    rename IntsAre _ (List.reverse [sa, sb, sc]) => iS
    rename IntsAre _ (List.reverse (figAt x 3)) => iF
    refine with_fr FF2 fun m1 hm1 F1 => ?_
    refine with_ledger NN2 fun NL hNL NB => ?_
    obtain ⟨fs, hfs⟩ : ∃ fs, fs = (figAt x 3).reverse.zip [sc, sb, sa] := ⟨_, rfl⟩
    have hs3 : ∀ p ∈ fs, p.2 = 1 ∨ p.2 = 2 := fun p hp => by
      rw [hfs] at hp
      have := (List.of_mem_zip (show (p.1, p.2) ∈ _ from hp)).2
      exact hs _ (by simp only [List.mem_cons, List.not_mem_nil, or_false] at this ⊢; rcases this with h | h | h <;> simp [h])
    refine zip_forJ (n := 3) (J := fun i m led => ∃ u ta tb, m = (fun z => if z = Str.ofString "light" then some (.int (bdAt n f fs i).1 ta) else if z = Str.ofString "step" then some (.int (bdAt n f fs i).2 tb) else mapD [Str.ofString "light", Str.ofString "step", Str.ofString "side", Str.ofString "figure", Str.ofString "sign"] u m1 z) ∧ led = NL)
      rfl F1 NB (by rw [hNL]; exact .tail _ (.head _)) (by rw [hNL]; exact .head _) (.inl (by rw [iF.length]; rfl)) (.inl (by rw [iS.length]; rfl)) ?_ ?_ ?_ ?_
    · subst hm1
      exact ⟨_, _, _, map_two rfl rfl map_self, rfl⟩
    · rintro i m led ⟨u, ta, tb, rfl, rfl⟩
      exact ⟨by rw [hNL]; exact .tail _ (.head _), by rw [hNL]; exact .head _⟩
    · subst hm1
      rintro i v0 v1 m2 led h2 tk2 Z hv0 hv1 ⟨u2, ta, tb, rfl, rfl⟩ hZ FT2 NT2
      obtain ⟨fg, tf, rfl, hfg⟩ := IntsAre.at iF i v0 hv0
      obtain ⟨sg, ts, rfl, hsg⟩ := IntsAre.at iS i v1 hv1
      have hp : fs[i]? = some (fg, sg) := by rw [hfs]; exact zip_get hfg hsg
      have hsg' := hs3 _ (List.mem_of_getElem? hp)
      dsimp only at hsg'
      have hb := bdAt_rng hn hnf hs3 i
      have hsd := side_rng hn hsg'
      have hi3 : i < 3 := by have := (List.getElem?_eq_some_iff.mp hv1).1; rw [iS.length] at this; simpa using this
      have s1 : Small (bdAt n f fs i).1 := small2 hb.1 (by omega)
      have s2 : Small (bdAt n f fs i).2 := small2 hb.2 (by omega)
      have s3 : Small (2 ^ (n * sg).toNat) := small2 hsd (by omega)
      have s4 : Small (2 + 2 ^ (n * sg).toNat) := small_int (by have : (2 : Int) ^ 27 = 134217728 := by decide
                                                                omega)
      have s5 : Small n := small_int (by omega)
      have s6 : Small sg := small_int (by omega)
      have hns : 0 ≤ n * sg ∧ n * sg < 27 := by rcases hsg' with h | h <;> (rw [h]; omega)
      k_steps
      all_goals (rename Fr _ _ _ _ => FZ; rename News _ _ _ _ => NZ)
      all_goals refine TurnZ.fin FZ NZ led (fun _ h => h) rfl ⟨_, _, _, map_two (a := Str.ofString "light") (b := Str.ofString "step") (congrArg (fun z => some (Value.int z _)) ?_) (congrArg (fun z => some (Value.int z _)) ?_) ?_, rfl⟩
      all_goals first | (repeat (first | exact map_base | refine map_peel (by decide) ?_)) | skip
      all_goals (rename 0 < _ ∧ _ ∨ _ => hr; rw [bdAt_succ hp]; simp only [bdTurn]; rcases hr with ⟨hg, rfl⟩ | ⟨hg, rfl⟩ <;> (repeat' split) <;> first | rfl | omega)
    · subst hm1
      rintro m2 led h2 tk2 ⟨u2, ta, tb, rfl, rfl⟩ FT2 NT2
      have hb := bdAt_rng hn hnf hs3 3
      have hRn : ∀ p ∈ R ++ Tb', p ∈ led := by rw [hNL, ← hW]; exact fun _ h => .tail _ (.tail _ (.tail _ (.tail _ h)))
      k_steps
      refine Stop.in ?_
      k_dflt (refine' specT_use (figures_spec w loose mean mg mb R Tb' hT' hC _ n _ _ (lt2_mono hb.1 (by omega)) ⟨hn.1, by omega⟩) ?k1 ?k2 ?k3 ?k4 ?k5 ?kK ?ks ?kd ?ku ?_; (case k1 => k_asm); (case k2 => k_asm); (case k3 => k_asm); (case k4 => k_asm); (case k5 => k_asm); (case kK => exact rfl); (case ks => exact hRn))
      case kd => ktr_room
      case ku => ktr_units
      rintro rv6 T6 h6 tk6 F6 N6 ⟨Da, va, ka, Tb6, rfl, ia, la, rfl, hT6⟩
      (try dsimp only at F6 N6)
      k_steps
      refine Stop.in ?_
      k_dflt (refine' specT_use (figures_spec w loose mean mg mb ((Da, listOf (List.toArray va) ka) :: R) Tb6 hT6 (Cl.cons (by simp) hC) _ n _ _ (lt2_mono hb.2 (by omega)) ⟨hn.1, by omega⟩) ?k1 ?k2 ?k3 ?k4 ?k5 ?kK ?ks ?kd ?ku ?_; (case k1 => k_asm); (case k2 => k_asm); (case k3 => k_asm); (case k4 => k_asm); (case k5 => k_asm); (case kK => exact rfl); (case ks => exact fun _ h => h))
      case kd => ktr_room
      case ku => ktr_units
      rintro rv7 T7 h7 tk7 F7 N7 ⟨Db, vb, kb, Tb7, rfl, ib, lb, rfl, hT7⟩
      (try dsimp only at F7 N7)
      simp only [List.cons_append] at N7
      k_steps
      rename Fr h₀ L _ _ => FZ
      rename News h₀ L _ _ => NZ
      subst hfs
      exact hret _ _ _ _ FZ NZ ⟨_, Da, Db, va, vb, ka, kb, Tb7, rfl, rfl, ia, ib, hT7⟩
end Mine
end
section
open PySem PySem.W PyProof.Rows PySem.Calls
set_option maxRecDepth 100000
set_option exponentiation.threshold 6000
namespace Mine
abbrev c1 : UInt64 := 4607182418800017408
abbrev c6 : UInt64 := 4618441417868443648
noncomputable def hsvN (h : UInt64) : Int := Flt.toInt Float64.truncOf (Float64.mul h 4618441417868443648)
noncomputable def hsvR (h : UInt64) : UInt64 := Float64.sub (Float64.mul h 4618441417868443648) (Float64.ofInt (hsvN h))
noncomputable def hsvP (sg V : UInt64) : UInt64 := Float64.mul V (Float64.sub 4607182418800017408 sg)
noncomputable def hsvQ (h sg V : UInt64) : UInt64 := Float64.mul V (Float64.sub 4607182418800017408 (Float64.mul sg (hsvR h)))
noncomputable def hsvT (h sg V : UInt64) : UInt64 := Float64.mul V (Float64.sub 4607182418800017408 (Float64.mul sg (Float64.sub 4607182418800017408 (hsvR h))))
noncomputable def hsvF (h sg V : UInt64) : UInt64 × UInt64 × UInt64 :=
  if (Float64.cmp sg 0 == some .eq) = true then (V, V, V) else
  if (hsvN h).fmod 6 = 0 then (V, hsvT h sg V, hsvP sg V) else
  if (hsvN h).fmod 6 = 1 then (hsvQ h sg V, V, hsvP sg V) else
  if (hsvN h).fmod 6 = 2 then (hsvP sg V, V, hsvT h sg V) else
  if (hsvN h).fmod 6 = 3 then (hsvP sg V, hsvQ h sg V, V) else
  if (hsvN h).fmod 6 = 4 then (hsvT h sg V, hsvP sg V, V) else (V, hsvP sg V, hsvQ h sg V)
noncomputable def hsvPost (h sg V : UInt64) (v : Value) (new : Led) : Prop :=
  ∃ D u1 u2 u3, v = .ref D ∧ new = [(D, tupObj [.float (hsvF h sg V).1 u1, .float (hsvF h sg V).2.1 u2, .float (hsvF h sg V).2.2 u3])]
theorem hsvPost_of {h sg V a b c : UInt64} {D : Addr} {u1 u2 u3 : Tok} (e : hsvF h sg V = (a, b, c)) : hsvPost h sg V (.ref D) [(D, tupObj [.float a u1, .float b u2, .float c u3])] :=
  ⟨D, u1, u2, u3, rfl, by rw [e]⟩
theorem ov_no {n : Int} (h : n.natAbs < 1000000) : ¬ 2 ^ 1024 - 2 ^ 970 ≤ n.natAbs := by
  have : 1000000 ≤ 2 ^ 1024 - 2 ^ 970 := by decide
  omega
end Mine
end
section
open PySem PySem.W PyProof.Rows PySem.Calls
set_option maxRecDepth 100000
namespace Mine


set_option maxHeartbeats 8000000 in
theorem hsv_spec (w : World) (loose mean mg mb) (T : Led) (h sg V : UInt64) (t1 t2 t3 : Tok) (hn : Float64.isNaN (Float64.mul h 4618441417868443648) = false) (hi : Float64.isInf (Float64.mul h 4618441417868443648) = false) (hs : (hsvN h).natAbs < 1000000) :
   Spec PySem.Challenge.pw_wf0044_03 w (Mine.hd.heap_39 w.params) topProg loose mean mg mb 5 20 28 [.float h t1, .float sg t2, .float V t3] T (hsvPost h sg V) := by
  unfold Spec
  intro dp un gd cn cs a ccd cl outer A₀ base h₀ L m s Q E B F X N Tp hk hd hu hret
  refine wpAny_call ?_
  have hk0 : (PySem.Challenge.rw_wf0044_03 = PySem.Challenge.rw_wf0044_03 ∧ Mine.hd.heap_39 = Mine.hd.heap_39) := by (k_fill; exact ⟨rfl, rfl⟩)
  clear hk0
  k_dflt ktr_enter
  k_steps
  · exact hret1 hret (by assumption) (by assumption) (by assumption) (hsvPost_of (by unfold hsvF; rw [if_pos (by assumption)]))
  · exact absurd (by assumption) (ov_no hs)
  all_goals have hz : ¬ (Float64.cmp sg 0 == some Ordering.eq) = true := by simp_all
  · exact hret1 hret (by assumption) (by assumption) (by assumption) (hsvPost_of (by unfold hsvF; rw [if_neg hz, if_pos (by assumption)]; rfl))
  · exact hret1 hret (by assumption) (by assumption) (by assumption) (hsvPost_of (by unfold hsvF; rw [if_neg hz, if_neg (by assumption), if_pos (by assumption)]; rfl))
  · exact hret1 hret (by assumption) (by assumption) (by assumption) (hsvPost_of (by unfold hsvF; rw [if_neg hz, if_neg (by assumption), if_neg (by assumption), if_pos (by assumption)]; rfl))
  · exact hret1 hret (by assumption) (by assumption) (by assumption) (hsvPost_of (by unfold hsvF; rw [if_neg hz, if_neg (by assumption), if_neg (by assumption), if_neg (by assumption), if_pos (by assumption)]; rfl))
  · exact hret1 hret (by assumption) (by assumption) (by assumption) (hsvPost_of (by unfold hsvF; rw [if_neg hz, if_neg (by assumption), if_neg (by assumption), if_neg (by assumption), if_neg (by assumption), if_pos (by assumption)]; rfl))
  · exact hret1 hret (by assumption) (by assumption) (by assumption) (hsvPost_of (by unfold hsvF; rw [if_neg hz, if_neg (by assumption), if_neg (by assumption), if_neg (by assumption), if_neg (by assumption), if_neg (by assumption)]; rfl))
  all_goals exact (fmod6 (by assumption) (by assumption) (by assumption) (by assumption) (by assumption) (by assumption)).elim
end Mine
end
section
open PySem PySem.W PyProof.Rows PySem.Calls
open PyProof.Rows.LCg
set_option maxRecDepth 100000
namespace Mine
local macro_rules | `(tactic| walk_at "eval ListComp") => `(tactic| (k_here; refine Stop.mk ?_))
local macro_rules | `(tactic| walk_at "call type:zip") => `(tactic| (k_here; refine Stop.mk ?_))
noncomputable def isL (T' : Led) (v : Value) (xs : List Int) : Prop := ∃ d ws k, v = .ref d ∧ (d, listOf ws.toArray k) ∈ T' ∧ IntsAre ws xs
set_option maxHeartbeats 8000000 in
theorem mixed_spec (w : World) (loose mean mg mb) (T : Led) (D1 D2 : Addr) (k1 k2 : Nat) (vs1 vs2 : List Value) (a1 b1 c1 a2 b2 c2 : Int) (h1 : (D1, listOf vs1.toArray k1) ∈ T) (h2 : (D2, listOf vs2.toArray k2) ∈ T) (i1 : IntsAre vs1 [a1, b1, c1]) (i2 : IntsAre vs2 [a2, b2, c2]) :
   SpecT PySem.Challenge.pw_wf0044_03 w (Mine.hd.heap_39 w.params) topProg loose mean mg mb 5 20 99 [.ref D1, .ref D2] T (fun v T' => ∃ D ws k, v = .ref D ∧ T' = (D, listOf ws.toArray k) :: T ∧ (∀ p ∈ T, p.1 ≠ D) ∧ IntsAre ws [a1 + a2, b1 + b2, c1 + c2]) := by
  unfold SpecT
  intro dp un gd cn cs a ccd cl outer A₀ base h₀ L m s Q E B F X N Tp hk hd hu hret
  refine wpAny_call ?_
  have hk0 : (PySem.Challenge.rw_wf0044_03 = PySem.Challenge.rw_wf0044_03 ∧ Mine.hd.heap_39 = Mine.hd.heap_39) := by (k_fill; exact ⟨rfl, rfl⟩)
  clear hk0
  cases i1 with | cons _ ta i1 => cases i1 with | cons _ tb i1 => cases i1 with | cons _ tc i1 => cases i1 with | nil =>
  cases i2 with | cons _ ua i2 => cases i2 with | cons _ ub i2 => cases i2 with | cons _ uc i2 => cases i2 with | nil =>
  k_dflt ktr_enter
  k_steps
  refine Stop.in ?_
  k_dflt (refine ListComp_Z (by rfl) (by rfl) (by decide) ?_)
  k_steps
  refine Stop.in ?_
  refine zip_blk (n := 3) (fun i => [a1, b1, c1].getD i 0 + [a2, b2, c2].getD i 0) rfl (by decide) rfl rfl rfl (by decide) (by assumption) (by assumption) h1 h2 rfl rfl (by omega) ?_ ?_
  · intro i v0 v1 C oC D oD m₂ h tk E' e0 e1 hC ha hb F2 N2
    rcases i with _ | _ | _ | i
    all_goals (simp only [List.getElem?_cons_zero, List.getElem?_cons_succ, List.getElem?_nil, Option.some.injEq, reduceCtorEq] at e0 e1 <;> (subst e0; subst e1))
    all_goals k_steps
    all_goals exact ⟨_, _, rfl, rfl⟩
  · intro D h tk ys hys F2 N2 ne
    k_steps
    exact hret _ _ _ _ (by assumption) (by assumption) ⟨D, ys, ys.length, rfl, rfl, ne, hys⟩
end Mine
end
section
open PySem PySem.W PyProof.Rows PySem.Calls
open PyProof.Rows.LCg
set_option maxRecDepth 100000
namespace Mine
abbrev c3 : UInt64 := 4613937818241073152
noncomputable def hueOf (t : Int) : UInt64 := Float64.div (Float64.ofInt t) 4613937818241073152
noncomputable def paintF (t : Int) : UInt64 × UInt64 × UInt64 := hsvF (hueOf t) 4607182418800017408 4607182418800017408
noncomputable def paintI (t : Int) : List Int := [rnd (paintF t).1, rnd (paintF t).2.1, rnd (paintF t).2.2]
noncomputable def finH (x : UInt64) : Bool := Float64.isFinite (Float64.add x 4602678819172646912)
noncomputable def hueOk (t : Int) : Bool := !Float64.isNaN (Float64.mul (hueOf t) 4618441417868443648) && !Float64.isInf (Float64.mul (hueOf t) 4618441417868443648) && decide ((hsvN (hueOf t)).natAbs < 1000000) && finH (paintF t).1 && finH (paintF t).2.1 && finH (paintF t).2.2
theorem hueOk_all : ((List.range 64).all fun i => hueOk (i : Int)) = true := by decide +kernel
theorem hueOk_at {t : Int} (h : 0 ≤ t ∧ t < 64) : hueOk t = true := by
  have h1 := List.all_eq_true.mp hueOk_all t.toNat (List.mem_range.mpr (by omega))
  rwa [Int.toNat_of_nonneg h.1] at h1
inductive RowsIn (T : Led) : List Value → List (List Int) → Prop
  | nil : RowsIn T [] []
  | cons {v xs vs xss} : isL T v xs → RowsIn T vs xss → RowsIn T (v :: vs) (xs :: xss)
theorem isL.mono {T T' : Led} {v : Value} {xs : List Int} (h : isL T v xs) (k : ∀ p ∈ T, p ∈ T') : isL T' v xs := by
  obtain ⟨d, ws, j, e, hm, hi⟩ := h
  exact ⟨d, ws, j, e, k _ hm, hi⟩
theorem RowsIn.mono {T T' : Led} {vs : List Value} {xss : List (List Int)} (h : RowsIn T vs xss) (k : ∀ p ∈ T, p ∈ T') : RowsIn T' vs xss := by
  induction h with
  | nil => exact .nil
  | cons a _ ih => exact .cons (a.mono k) ih
theorem RowsIn.snoc {T : Led} {vs : List Value} {xss : List (List Int)} {v : Value} {xs : List Int} (h : RowsIn T vs xss) (hv : isL T v xs) : RowsIn T (vs ++ [v]) (xss ++ [xs]) := by
  induction h with
  | nil => exact .cons hv .nil
  | cons a _ ih => exact .cons a ih
theorem RowsIn.length {T : Led} {vs : List Value} {xss : List (List Int)} (h : RowsIn T vs xss) : vs.length = xss.length := by
  induction h with
  | nil => rfl
  | cons a _ ih => rw [List.length_cons, List.length_cons, ih]
theorem RowsIn.at {T : Led} {vs : List Value} {xss : List (List Int)} (h : RowsIn T vs xss) {i : Nat} {v : Value} (hv : vs[i]? = some v) : ∃ xs, xss[i]? = some xs ∧ isL T v xs := by
  induction h generalizing i with
  | nil => cases hv
  | @cons v0 xs0 _ _ a _ ih =>
    cases i with
    | zero =>
      simp only [List.getElem?_cons_zero, Option.some.injEq] at hv
      subst hv
      exact ⟨xs0, rfl, a⟩
    | succ i => exact ih hv
noncomputable def third (ks : List Int) (th : Int) (i : Nat) : Int := th + (ks.take i).sum
noncomputable def stepsP (ks : List Int) (th : Int) (n : Nat) : List (List Int) := (List.range n).map fun j => paintI (third ks th (j + 1))
theorem third_succ {ks : List Int} {th : Int} {i : Nat} {c : Int} (h : ks[i]? = some c) : third ks th (i + 1) = third ks th i + c := by
  unfold third
  rw [List.take_add_one, h, Option.toList_some, List.sum_append, List.sum_cons, List.sum_nil]
  omega
theorem stepsP_succ {ks : List Int} {th : Int} {i : Nat} : stepsP ks th (i + 1) = stepsP ks th i ++ [paintI (third ks th (i + 1))] := by
  unfold stepsP
  rw [List.range_succ, List.map_append]
  rfl
theorem third_rng {ks : List Int} {th : Int} (hk : ∀ c ∈ ks, 0 ≤ c ∧ c ≤ 2) (ht : 0 ≤ th) : ∀ i, 0 ≤ third ks th i ∧ third ks th i ≤ th + 2 * i
  | 0 => by unfold third; simp; omega
  | i + 1 => by
    have ih := third_rng hk ht i
    cases e : ks[i]? with
    | none =>
      have : third ks th (i + 1) = third ks th i := by unfold third; rw [List.take_add_one, e]; simp
      omega
    | some c =>
      have := third_succ (th := th) e
      have := hk c (List.mem_of_getElem? e)
      omega
end Mine
end
section
open PySem PySem.W PyProof.Rows PySem.Calls
open PyProof.Rows.LCg
set_option maxRecDepth 100000
namespace Mine
local macro_rules | `(tactic| k_mem) => `(tactic| first | assumption | exact List.Mem.tail _ (by assumption))
local macro_rules | `(tactic| k_all) => `(tactic| first | assumption | (refine allNe_lt (by assumption) ?_; show @LE.le Nat _ _ _; omega))
local macro_rules | `(tactic| walk_at "call ref") => `(tactic| (k_here; refine Stop.mk ?_))
local macro_rules | `(tactic| walk_at "pyIter ref") => `(tactic| (k_here; refine Stop.mk ?_))
local macro_rules | `(tactic| walk_at "eval ListComp") => `(tactic| (k_here; refine Stop.mk ?_))
local macro_rules | `(tactic| walk_at "call type:list") => `(tactic| (k_here; (with_reducible show wpAny _ _ (call (Value.type _) [Value.bytes _ _]) _ _ _); refine Stop.mk ?_))
local macro_rules | `(tactic| walk_at "binaryOp Add ref ref") => `(tactic| (k_here; k_dflt (refine' cat_K ?k1 ?k2 ?k3 ?k4 ?k5 ?_; (case k1 => k_asm); (case k2 => k_asm); (case k3 => k_mem); (case k4 => k_mem); (case k5 => (show _; simp only [List.length_cons, List.length_nil]; omega)); k_whole); intro D' h' F' N' l1; (try k_lt l1); (try k_sweep)))
local macro_rules | `(tactic| walk_at "binaryOp Div int float") => `(tactic| (k_here; refine divif_K (by omega) (by decide +kernel) ?_))
local macro_rules | `(tactic| walk_at "exec For Name BinOp cons nil") => `(tactic| (k_here; k_dflt (refine For_J (by k_asm) (by rfl) (by rfl) ?_ (by with_unfolding_all passes_own))))
local macro_rules | `(tactic| walk_at "call type:int") => `(tactic| (k_here; (with_reducible show wpAny _ _ (call _ [Value.float _ _]) _ _ _); refine intF_K rfl (by assumption) ?_))
local macro_rules | `(tactic| walk_at "CompEnd") => `(tactic| (refine Stop.mk ?_))
local macro_rules | `(tactic| walk_at "call builtin:list.append") => `(tactic| (k_here; (with_reducible show wpAny _ _ (call (Value.builtin _) [Value.ref _, _]) _ _ _); k_dflt (refine' append_lK ?k1 ?k2 ?k3 ?k4 ?_; (case k1 => k_asm); (case k2 => k_asm); (case k3 => k_upd); (case k4 => assumption); k_whole); intro h' F' N'; (try k_sweep)))
noncomputable def stepsPost (rows : List (List Int)) (T : Led) (v : Value) (T' : Led) : Prop := ∃ D ws k W, v = .ref D ∧ T' = (D, listOf ws.toArray k) :: W ∧ RowsIn W ws rows ∧ (∀ p ∈ T, p ∈ W) ∧ (∀ p ∈ W, p.1 ≠ D)
set_option maxHeartbeats 8000000 in
theorem steps_spec (w : World) (loose mean mg mb) (T : Led) (x : Array UInt8) (t1 t2 : Tok) (th : Int) (hx : x.size = 26) (hc : ∀ c ∈ PySem.W.KBw.bInts x, 0 ≤ c ∧ c ≤ 2) (ht : 0 ≤ th ∧ th < 3) :
   SpecT PySem.Challenge.pw_wf0044_03 w (Mine.hd.heap_39 w.params) topProg loose mean mg mb 15 80 94 [.bytes x t1, .int th t2] T (stepsPost (stepsP (0 :: PySem.W.KBw.bInts x) th 27) T) := by
  unfold SpecT
  intro dp un gd cn cs a ccd cl outer A₀ base h₀ L m s Q E B F X N Tp hk hd hu hret
  refine wpAny_call ?_
  have hk0 : (PySem.Challenge.rw_wf0044_03 = PySem.Challenge.rw_wf0044_03 ∧ Mine.hd.heap_39 = Mine.hd.heap_39) := by (k_fill; exact ⟨rfl, rfl⟩)
  clear hk0
  k_dflt ktr_enter
  k_steps
  refine Stop.in ?_
  refine list_bytes rfl (by assumption) (by assumption) (by omega) ?_
  intro D1 us c1 h1 tk1 F1 N1 l1 i1
  (try k_lt l1)
  have hul : us.length = 26 := by rw [i1.length, PySem.W.KBw.ints_length, hx]
  k_steps
  refine Stop.in ?_
  (rename News _ _ _ _ => Nn)
  (rename Fr _ _ _ _ => FF)
  refine with_fr FF fun m0 hm0 F0 => ?_
  refine with_obj (listOf #[] 0) Nn (by repeat (first | exact List.Mem.head _ | apply List.Mem.tail)) fun Ds hDs => ?_
  subst hDs
  refine with_upd (d := Ds) (o := listOf #[] 0) (o' := listOf #[] 0) Nn (by k_dflt k_upd) fun Bl R2 hBl hne hin NB => ?_
  have hT2 : ∀ q ∈ T, q ∈ R2 := fun q hq => hin q (by rw [hBl]; repeat (first | exact hq | apply List.Mem.tail)) (Nat.ne_of_lt (‹∀ p ∈ T, p.1 < Ds› q hq))
  have hl0 := hin (_, _) (by rw [hBl]; exact List.Mem.head _) (by k_ne)
  have hks := fun tk => IntsAre.cons 0 tk i1
  have hc' : ∀ c ∈ (0 :: PySem.W.KBw.bInts x), 0 ≤ c ∧ c ≤ 2 := fun c h => by
    rcases List.mem_cons.mp h with rfl | h
    · omega
    · exact hc c h
  have hkl : (0 :: PySem.W.KBw.bInts x).length = 27 := by rw [List.length_cons, PySem.W.KBw.ints_length, hx]
  generalize hKS : (0 :: PySem.W.KBw.bInts x) = ks at *
  refine iter_listJ (J := fun i m led => ∃ u tt ws k Wr, m = (fun z => if z = Str.ofString "thirds" then some (.int (third ks th i) tt) else mapD [Str.ofString "thirds", Str.ofString "crease", Str.ofString "paint"] u m0 z) ∧ led = (Ds, listOf (List.toArray ws) k) :: Wr ∧
      ws.length = i ∧ RowsIn Wr ws (stepsP ks th i) ∧ (∀ q ∈ R2, q ∈ Wr) ∧ (∀ p ∈ Wr, p.1 ≠ Ds))
     rfl (List.Mem.tail (Ds, listOf #[] 0) hl0) ?_ (by exact F0) (by exact NB) ?_ ?_ ?_
  · rintro i m led ⟨u, tt, ws, k, Wr, rfl, rfl, _, _, hW, _⟩
    exact .tail _ (hW _ hl0)
  · subst hm0
    exact ⟨_, _, [], 0, R2, map_one (by unfold third; rw [List.take_zero, List.sum_nil, Int.add_zero]; rfl) map_self, rfl, rfl, .nil, fun _ h => h, hne⟩
  · subst hm0
    rintro I i v m1 led h tk it hv ⟨u, tt, ws, k, Wr, rfl, rfl, hwl, hrows, hW, hWne⟩ hoI _ hic FT NT
    obtain ⟨c, tc, rfl, hci⟩ := IntsAre.at (hks _) i v hv
    have hil : i < 27 := by rw [← hkl]; exact (List.getElem?_eq_some_iff.mp hci).1
    have h3 := third_rng hc' ht.1 (i + 1)
    have h3' := third_rng hc' ht.1 i
    have hcr := hc' c (List.mem_of_getElem? hci)
    have e3 := third_succ (th := th) hci
    k_steps
    refine Stop.in ?_
    have hq := hueOk_at (t := third ks th i + c) (by omega)
    simp only [hueOk, Bool.and_eq_true, Bool.not_eq_true', decide_eq_true_eq] at hq
    obtain ⟨⟨⟨⟨⟨q1, q2⟩, q3⟩, q4⟩, q5⟩, q6⟩ := hq
    unfold finH paintF at q4 q5 q6
    k_dflt (refine' spec_use (hsv_spec w loose mean mg mb _ (hueOf (third ks th i + c)) _ _ _ _ _ q1 q2 q3) ?k1 ?k2 ?k3 ?k4 ?k5 ?kK ?kd ?ku ?_; (case k1 => k_asm); (case k2 => k_asm); (case k3 => k_asm); (case k4 => k_asm); (case k5 => k_asm); (case kK => exact rfl))
    case kd => ktr_room
    case ku => ktr_units
    rintro rv5 new5 h5 tk5 F5 N5 l5 ⟨Dt, u1, u2, u3, rfl, rfl⟩
    dsimp only at F5 N5
    have l5' : ∀ q ∈ (I, it) :: (Ds, listOf (List.toArray ws) k) :: Wr, q.1 < Dt := fun q hq => l5 q hq _ (List.Mem.head _)
    clear l5
    (try k_lt l5')
    k_steps
    refine Stop.in ?_
    k_dflt (refine ListComp_W (by k_asm) (by rfl) (by decide) (by rfl) (by decide) (by rfl) ?_)
    k_steps
    refine Stop.in ?_
    refine blk_tuple rfl (by k_asm) (by k_asm) (List.Mem.head _) (by simp) fun gh => ?_
    refine comp_ints (fun j => (paintI (third ks th i + c)).getD j 0) ?_ ?_
    · intro j v ys I2 oI C oC D2 m₂ h2 tk2 E' hj hP hC hx2 F6 N6 off6 ne6
      rcases j with _ | _ | _ | j
      all_goals (simp only [List.getElem?_cons_zero, List.getElem?_cons_succ, List.getElem?_nil, Option.some.injEq, reduceCtorEq] at hP <;> (subst hP))
      all_goals k_steps
      all_goals refine Stop.in ?_
      all_goals exact CompEnd.fin0 (by assumption) (by assumption) off6 (List.Mem.head _) rfl
    · intro ys hys
      unfold FinE
      intro D3 h3 tk3 F3 N3 o3
      replace o3 := off1_of o3
      have n1 : @Ne Nat D3 Ds := Ne.symm (o3 (Ds, _) (.tail _ (.tail _ (.head _))))
      have n2 : @Ne Nat I Ds := Ne.symm (hoI (Ds, _) (.head _))
      have hwz : ws.length < 1000000 := by omega
      k_steps
      rename Fr _ _ _ _ => FZ
      rename News _ _ _ _ => NZ
      refine TurnJ.fin FZ NZ ((Ds, listOf (List.toArray (ws ++ [Value.ref D3])) (k + 1)) :: (D3, lst ys) :: Wr) ?_ ?_ ?_
      · intro q hq
        simp only [List.mem_cons] at hq ⊢
        rcases hq with hq | hq | hq | hq <;> simp [hq]
      · intro p hp
        rcases List.mem_cons.mp hp with rfl | hp
        · exact Ne.symm n2
        · rcases List.mem_cons.mp hp with rfl | hp
          · exact Ne.symm (o3 (I, _) (.tail _ (.head _)))
          · exact hoI p (.tail _ hp)
      · refine ⟨_, _, _, _, (D3, lst ys) :: Wr, map_one (by rw [e3]; rfl) (by repeat (first | exact map_base | refine map_peel (by decide) ?_)), rfl, by rw [List.length_append, hwl]; rfl, ?_, fun q hq => .tail _ (hW q hq), ?_⟩
        · rw [stepsP_succ, e3]
          exact (hrows.mono fun _ h => .tail _ h).snoc ⟨D3, ys, _, rfl, .head _, hys⟩
        · intro p hp
          rcases List.mem_cons.mp hp with rfl | hp
          · exact n1
          · exact hWne p hp
  · rintro m1 led h tk ⟨u, tt, ws, k, Wr, rfl, rfl, hwl, hrows, hW, hWne⟩ FT NT
    subst hm0
    k_steps
    rename Fr h₀ L _ _ => FZ
    rename News h₀ L _ _ => NZ
    exact hret _ _ _ _ FZ NZ ⟨Ds, ws, k, Wr, rfl, rfl, by rw [show ([Value.int 0 _] ++ us).length = 27 from by rw [List.length_append, hul]; rfl] at hrows; exact hrows, fun q hq => hW q (hT2 q hq), hWne⟩
end Mine
end
section
open PySem PySem.W PyProof.Rows PySem.Calls
open PyProof.Rows.LCg
set_option maxRecDepth 100000
namespace Mine
noncomputable def mixP (a b : List Int) : List Int := List.zipWith (· + ·) a b
noncomputable def lightAt (rows : List (List Int)) (i : Nat) : List Int := (rows.take i).foldl mixP [0, 0, 0]
noncomputable def lightsP (rows : List (List Int)) (n : Nat) : List (List Int) := (List.range n).map (lightAt rows)
theorem lightsP_succ {rows : List (List Int)} {n : Nat} : lightsP rows (n + 1) = lightsP rows n ++ [lightAt rows n] := by
  unfold lightsP
  rw [List.range_succ, List.map_append]; rfl
theorem lightAt_succ {rows : List (List Int)} {i : Nat} {xs : List Int} (h : rows[i]? = some xs) : lightAt rows (i + 1) = mixP (lightAt rows i) xs := by
  unfold lightAt
  rw [List.take_add_one, h, Option.toList_some, List.foldl_append]; rfl
theorem three_of {xs : List Int} (h : xs.length = 3) : ∃ a b c, xs = [a, b, c] := by
  match xs, h with
  | [a, b, c], _ => exact ⟨a, b, c, rfl⟩
theorem mixP_len {a b : List Int} (ha : a.length = 3) (hb : b.length = 3) : (mixP a b).length = 3 := by
  unfold mixP; rw [List.length_zipWith, ha, hb]; rfl
theorem lightAt_len {rows : List (List Int)} (h : ∀ xs ∈ rows, xs.length = 3) : ∀ i, (lightAt rows i).length = 3
  | 0 => rfl
  | i + 1 => by
    cases e : rows[i]? with
    | none =>
      have : lightAt rows (i + 1) = lightAt rows i := by unfold lightAt; rw [List.take_add_one, e]; simp
      rw [this]; exact lightAt_len h i
    | some xs => rw [lightAt_succ e]; exact mixP_len (lightAt_len h i) (h xs (List.mem_of_getElem? e))
local macro_rules | `(tactic| k_mem) => `(tactic| first | assumption | exact List.Mem.tail _ (by assumption))
local macro_rules | `(tactic| k_all) => `(tactic| first | assumption | (refine allNe_lt (by assumption) ?_; show @LE.le Nat _ _ _; omega))
local macro_rules | `(tactic| walk_at "call ref") => `(tactic| (k_here; refine Stop.mk ?_))
local macro_rules | `(tactic| walk_at "pyIter ref") => `(tactic| (k_here; refine Stop.mk ?_))
local macro_rules | `(tactic| walk_at "exec For Name Name cons nil") => `(tactic| (k_here; k_dflt (refine For_J (by k_asm) (by rfl) (by rfl) ?_ (by with_unfolding_all passes_own))))
local macro_rules | `(tactic| walk_at "exec For") => `(tactic| (k_here; k_dflt (refine For_J (by k_asm) (by rfl) (by rfl) ?_ (by with_unfolding_all passes_own))))
local macro_rules | `(tactic| walk_at "call builtin:list.append") => `(tactic| (k_here; (with_reducible show wpAny _ _ (call (Value.builtin _) [Value.ref _, _]) _ _ _); k_dflt (refine' append_lK ?k1 ?k2 ?k3 ?k4 ?_; (case k1 => k_asm); (case k2 => k_asm); (case k3 => k_upd); (case k4 => assumption); k_whole); intro h' F' N'; (try k_sweep)))
local macro_rules | `(tactic| walk_at "subscriptTail") => `(tactic| (k_here; (with_reducible show wpAny _ _ (subscriptTail _ _ (Value.ref _) (Value.int _ _)) _ _ _); k_dflt (refine' item_last (News.isList (by k_asm) (by k_mem)) ?_ ?k5; (case k5 => with_unfolding_all rfl); k_whole)))
set_option maxHeartbeats 8000000 in
theorem lights_spec (w : World) (loose mean mg mb) (T : Led) (D1 : Addr) (k1 n : Nat) (vs : List Value) (rows : List (List Int)) (h1 : (D1, listOf vs.toArray k1) ∈ T) (hr : RowsIn T vs rows) (h3 : ∀ xs ∈ rows, xs.length = 3) (hn : rows.length = n ∧ n < 1000) :
   SpecT PySem.Challenge.pw_wf0044_03 w (Mine.hd.heap_39 w.params) topProg loose mean mg mb 15 80 106 [.ref D1] T (stepsPost (lightsP rows (n + 1)) T) := by
  unfold SpecT
  intro dp un gd cn cs a ccd cl outer A₀ base h₀ L m s Q E B F X N Tp hk hd hu hret
  refine wpAny_call ?_
  have hk0 : (PySem.Challenge.rw_wf0044_03 = PySem.Challenge.rw_wf0044_03 ∧ Mine.hd.heap_39 = Mine.hd.heap_39) := by (k_fill; exact ⟨rfl, rfl⟩)
  clear hk0
  k_dflt ktr_enter
  k_steps
  refine Stop.in ?_
  (rename News _ _ _ _ => Nn)
  (rename Fr _ _ _ _ => FF)
  rename _ ∧ AllLt _ T => lT
  refine with_fr FF fun m0 hm0 F0 => ?_
  refine name2 Nn fun Ds Dz hDs hDz => ?_
  subst hDs hDz
  have hT2 : ∀ p ∈ T, p.1 ≠ Ds := fun p hp => allLt_neOf lT.2 p hp
  have n0 : @Ne Nat Dz Ds := Nat.ne_of_lt lT.1
  refine iter_listJ (J := fun i m led => ∃ u ws k Wr, m = mapD [Str.ofString "step"] u m0 ∧ led = (Ds, listOf (List.toArray ws) k) :: Wr ∧
      ws.length = i + 1 ∧ RowsIn Wr ws (lightsP rows (i + 1)) ∧ (∀ q ∈ T, q ∈ Wr) ∧ (∀ p ∈ Wr, p.1 ≠ Ds))
     rfl (List.Mem.tail _ (List.Mem.tail _ h1)) ?_ F0 Nn ?_ ?_ ?_
  · rintro i m led ⟨u, ws, k, Wr, rfl, rfl, _, _, hW, _⟩
    exact .tail _ (hW _ h1)
  · subst hm0
    refine ⟨_, [.ref Dz], 0, _, mapD_self, rfl, rfl, .cons ⟨Dz, _, 0, rfl, .head _, .cons _ _ (.cons _ _ (.cons _ _ .nil))⟩ .nil, fun _ h => .tail _ h, ?_⟩
    intro p hp
    rcases List.mem_cons.mp hp with rfl | hp
    · exact n0
    · exact hT2 p hp
  · subst hm0
    rintro I i v m1 led h tk it hv ⟨u, ws, k, Wr, rfl, rfl, hwl, hrows, hW, hWne⟩ hoI _ hic FT NT
    obtain ⟨xs, hxs, hxl⟩ := hr.at hv
    have hil : i < n := by rw [← hn.1]; exact (List.getElem?_eq_some_iff.mp hxs).1
    rcases List.eq_nil_or_concat ws with e | ⟨vi, vl, e⟩
    · rw [e] at hwl; cases hwl
    rw [List.concat_eq_append] at e
    subst e
    obtain ⟨ls, hls, hll⟩ := hrows.at (i := i) (v := vl) (by rw [List.length_append] at hwl; have : vi.length = i := by simpa using hwl
                                                             rw [← this]; simp)
    have els : ls = lightAt rows i := by
      rw [lightsP, List.getElem?_map, List.getElem?_range (by omega)] at hls
      exact (Option.some.inj hls).symm
    subst els
    obtain ⟨dl, wl, kl, rfl, ml, il⟩ := hll
    obtain ⟨dx, wx, kx, rfl, mx, ix⟩ := hxl
    replace mx := hW _ mx
    obtain ⟨a1, b1, c1, e1⟩ := three_of (lightAt_len h3 i)
    obtain ⟨a2, b2, c2, e2⟩ := three_of (h3 xs (List.mem_of_getElem? hxs))
    k_steps
    refine Stop.in ?_
    rw [e1] at il
    rw [e2] at ix
    k_dflt (refine' specT_use (mixed_spec w loose mean mg mb ((I, it) :: (Ds, listOf (List.toArray (vi ++ [Value.ref dl])) k) :: Wr) dl dx kl kx wl wx _ _ _ _ _ _ (.tail _ (.tail _ ml)) (.tail _ (.tail _ mx)) il ix) ?k1 ?k2 ?k3 ?k4 ?k5 ?kK ?ks ?kd ?ku ?_; (case k1 => k_asm); (case k2 => k_asm); (case k3 => k_asm); (case k4 => k_asm); (case k5 => k_asm); (case kK => exact rfl); (case ks => exact fun _ h => h))
    case kd => ktr_room
    case ku => ktr_units
    rintro rv5 T5 h5 tk5 F5 N5 ⟨D3, ys, k3, rfl, rfl, o3, hys⟩
    dsimp only at F5 N5
    have n1 : @Ne Nat D3 Ds := Ne.symm (o3 (Ds, _) (.tail _ (.head _)))
    have n2 : @Ne Nat I Ds := Ne.symm (hoI (Ds, _) (.head _))
    have hwz : (vi ++ [Value.ref dl]).length < 1000000 := by omega
    k_steps
    rename Fr _ _ _ _ => FZ
    rename News _ _ _ _ => NZ
    refine TurnJ.fin FZ NZ ((Ds, listOf (List.toArray (vi ++ [Value.ref dl] ++ [Value.ref D3])) (k + 1)) :: (D3, listOf ys.toArray k3) :: Wr) ?_ ?_ ?_
    · intro q hq
      simp only [List.mem_cons] at hq ⊢
      rcases hq with hq | hq | hq | hq <;> simp [hq]
    · intro p hp
      rcases List.mem_cons.mp hp with rfl | hp
      · exact Ne.symm n2
      · rcases List.mem_cons.mp hp with rfl | hp
        · exact Ne.symm (o3 (I, _) (.head _))
        · exact hoI p (.tail _ hp)
    · refine ⟨_, _, _, (D3, listOf ys.toArray k3) :: Wr, mapD_of (by repeat (first | exact map_base | refine map_peel (by decide) ?_)), rfl, by rw [List.length_append, hwl]; rfl, ?_, fun q hq => .tail _ (hW q hq), ?_⟩
      · rw [lightsP_succ, lightAt_succ hxs, e1, e2]
        exact (hrows.mono fun _ h => .tail _ h).snoc ⟨D3, ys, _, rfl, .head _, hys⟩
      · intro p hp
        rcases List.mem_cons.mp hp with rfl | hp
        · exact n1
        · exact hWne p hp
  · subst hm0
    rintro m1 led h tk ⟨u, ws, k, Wr, rfl, rfl, hwl, hrows, hW, hWne⟩ FT NT
    k_steps
    rename Fr h₀ L _ _ => FZ
    rename News h₀ L _ _ => NZ
    exact hret _ _ _ _ FZ NZ ⟨Ds, ws, k, Wr, rfl, rfl, by rw [hr.length, hn.1] at hrows; exact hrows, hW, hWne⟩
end Mine
end
section
open PySem PySem.W PyProof.Rows PySem.Calls
set_option maxRecDepth 100000
namespace Mine
local macro_rules | `(tactic| walk_at "call builtin:max") => `(tactic| (k_here; (with_reducible show wpAny _ _ (call (Value.builtin _) [Value.int _ _, Value.int _ _, Value.int _ _]) _ _ _); refine' max3_K ?k0 ?k1 ?k2 ?_; (case k0 => exact rfl); (case k1 => k_asm); (case k2 => k_asm); k_whole; intro t' h' tk' F' N'; (try k_sweep)))
local macro_rules | `(tactic| walk_at "call builtin:min") => `(tactic| (k_here; (with_reducible show wpAny _ _ (call (Value.builtin _) [Value.int _ _, Value.int _ _, Value.int _ _]) _ _ _); refine' min3_K ?k0 ?k1 ?k2 ?_; (case k0 => exact rfl); (case k1 => k_asm); (case k2 => k_asm); k_whole; intro t' h' tk' F' N'; (try k_sweep)))
theorem rgb_rng {r g b : Int} (hr : 0 ≤ r ∧ r < 1048576) (hg : 0 ≤ g ∧ g < 1048576) (hb : 0 ≤ b ∧ b < 1048576) :
    0 ≤ min r (min g b) ∧ max r (max g b) < 1048576 ∧ min r (min g b) ≤ max r (max g b) ∧ r ≤ max r (max g b) ∧ g ≤ max r (max g b) ∧ b ≤ max r (max g b) ∧ 0 ≤ r ∧ 0 ≤ g ∧ 0 ≤ b :=
  ⟨Int.le_min.mpr ⟨hr.1, Int.le_min.mpr ⟨hg.1, hb.1⟩⟩, Int.max_lt.mpr ⟨hr.2, Int.max_lt.mpr ⟨hg.2, hb.2⟩⟩, Int.le_trans (Int.min_le_left _ _) (Int.le_max_left _ _), Int.le_max_left _ _, Int.le_trans (Int.le_max_left g b) (Int.le_max_right r _), Int.le_trans (Int.le_max_right g b) (Int.le_max_right r _), hr.1, hg.1, hb.1⟩
section
variable {prog : Program} {w : World} {A : Around} {E : Value → Shared → Prop} {s : Shared} {t u : Tok} {r g b : Int} {Q : Value → Shared → Prop}
theorem divm_K (hA : A.handled = none) (hr : 0 ≤ r ∧ r < 1048576) (hg : 0 ≤ g ∧ g < 1048576) (hb : 0 ≤ b ∧ b < 1048576) (hne : min r (min g b) ≠ max r (max g b))
    (h : Q (.float (fdv (max r (max g b) - min r (min g b)) (max r (max g b))) s.toks) { s with toks := s.toks + 1 }) : wpAny (model prog w) A (binaryOp .Div (.int (max r (max g b) - min r (min g b)) t) (.int (max r (max g b)) u)) Q E s := by
  have z := rgb_rng hr hg hb
  generalize max r (max g b) = M at *
  generalize min r (min g b) = m at *
  exact divii_K hA (by omega) (by omega) h
theorem divr_K {x : Int} (hA : A.handled = none) (hr : 0 ≤ r ∧ r < 1048576) (hg : 0 ≤ g ∧ g < 1048576) (hb : 0 ≤ b ∧ b < 1048576) (hne : min r (min g b) ≠ max r (max g b)) (hx : x = r ∨ x = g ∨ x = b)
    (h : Q (.float (fdv (max r (max g b) - x) (max r (max g b) - min r (min g b))) s.toks) { s with toks := s.toks + 1 }) : wpAny (model prog w) A (binaryOp .Div (.int (max r (max g b) - x) t) (.int (max r (max g b) - min r (min g b)) u)) Q E s := by
  have z := rgb_rng hr hg hb
  generalize max r (max g b) = M at *
  generalize min r (min g b) = m at *
  exact divii_K hA (by omega) (by omega) h
end
local macro_rules | `(tactic| walk_at "binaryOp Div int int") => `(tactic| (k_here; first | (refine' divm_K ?k0 ?k1 ?k2 ?k3 ?k4 ?_; (case k0 => with_unfolding_all exact rfl); (case k1 => assumption); (case k2 => assumption); (case k3 => assumption); (case k4 => assumption)) | (refine' divr_K ?k0 ?k1 ?k2 ?k3 ?k4 ?k5 ?_; (case k0 => with_unfolding_all exact rfl); (case k1 => assumption); (case k2 => assumption); (case k3 => assumption); (case k4 => assumption); (case k5 => first | exact .inl rfl | exact .inr (.inl rfl) | exact .inr (.inr rfl)))))
set_option maxHeartbeats 8000000 in
theorem rgb_spec (w : World) (loose mean mg mb) (T : Led) (r g b : Int) (t1 t2 t3 : Tok) (hr : 0 ≤ r ∧ r < 1048576) (hg : 0 ≤ g ∧ g < 1048576) (hb : 0 ≤ b ∧ b < 1048576) :
   Spec PySem.Challenge.pw_wf0044_03 w (Mine.hd.heap_39 w.params) topProg loose mean mg mb 5 20 21 [.int r t1, .int g t2, .int b t3] T (rgbPost r g b) := by
  unfold Spec
  intro dp un gd cn cs a ccd cl outer A₀ base h₀ L m s Q E B F X N Tp hk hd hu hret
  refine wpAny_call ?_
  have hk0 : (PySem.Challenge.rw_wf0044_03 = PySem.Challenge.rw_wf0044_03 ∧ Mine.hd.heap_39 = Mine.hd.heap_39) := by (k_fill; exact ⟨rfl, rfl⟩)
  clear hk0
  k_dflt ktr_enter
  k_steps
  · exact hret1 hret (by assumption) (by assumption) (by assumption) (rgbPost0 (by assumption))
  · refine hret1 hret (by assumption) (by assumption) (by assumption) (rgbPostN (by assumption) rfl ?_)
    rw [if_pos (by assumption)]
  · refine hret1 hret (by assumption) (by assumption) (by assumption) (rgbPostN (by assumption) rfl ?_)
    rw [if_neg (by assumption), if_pos (by assumption)]
  · refine hret1 hret (by assumption) (by assumption) (by assumption) (rgbPostN (by assumption) rfl ?_)
    rw [if_neg (by assumption), if_neg (by assumption)]
end Mine
end
section
open PySem PySem.W PyProof.Rows PySem.Calls
set_option maxRecDepth 100000
namespace Mine
local macro_rules | `(tactic| k_mem) => `(tactic| first | assumption | exact List.Mem.tail _ (by assumption))
local macro_rules | `(tactic| walk_at "call ref") => `(tactic| (k_here; refine Stop.mk ?_))
local macro_rules | `(tactic| walk_at "subscriptTail") => `(tactic| (k_here; (with_reducible show wpAny _ _ (subscriptTail _ _ (Value.ref _) (Value.int _ _)) _ _ _); k_dflt (refine' item_lK ?k1 ?k2 ?k3 ?k4 ?_ ?k5; (case k1 => k_asm); (case k2 => k_mem); (case k3 => decide); (case k4 => rfl); (case k5 => with_unfolding_all rfl); k_whole)))
local macro_rules | `(tactic| walk_at "binaryOp Mult float int") => `(tactic| (k_here; refine mulfi_K (by omega) ?_))
local macro_rules | `(tactic| walk_at "call type:int") => `(tactic| (k_here; (with_reducible show wpAny _ _ (call _ [Value.float _ _]) _ _ _); refine intF_K rfl (by assumption) ?_))
noncomputable def toldF (r g b : Int) : UInt64 := Float64.add (Float64.mul (rgbS r g b) (Float64.ofInt (max r (max g b)))) 4602678819172646912
noncomputable def toldPost (r g b : Int) (T : Led) (v : Value) (T' : Led) : Prop := ∃ D u1 u2, v = .ref D ∧ T' = (D, tupObj [.float (rgbH r g b) u1, .int (fint (toldF r g b)) u2]) :: T ∧ ∀ p ∈ T, p.1 ≠ D
set_option maxHeartbeats 8000000 in
theorem told_spec (w : World) (loose mean mg mb) (T : Led) (D : Addr) (k : Nat) (vs : List Value) (r g b : Int) (hD : (D, listOf vs.toArray k) ∈ T) (hi : IntsAre vs [r, g, b]) (hr : 0 ≤ r ∧ r < 1048576) (hg : 0 ≤ g ∧ g < 1048576) (hb : 0 ≤ b ∧ b < 1048576) (hf : Float64.isFinite (toldF r g b) = true) :
   SpecT PySem.Challenge.pw_wf0044_03 w (Mine.hd.heap_39 w.params) topProg loose mean mg mb 15 80 113 [.ref D] T (toldPost r g b T) := by
  unfold SpecT
  intro dp un gd cn cs a ccd cl outer A₀ base h₀ L m s Q E B F X N Tp hk hd hu hret
  refine wpAny_call ?_
  have hk0 : (PySem.Challenge.rw_wf0044_03 = PySem.Challenge.rw_wf0044_03 ∧ Mine.hd.heap_39 = Mine.hd.heap_39) := by (k_fill; exact ⟨rfl, rfl⟩)
  clear hk0
  cases hi with | cons _ ta i1 => cases i1 with | cons _ tb i1 => cases i1 with | cons _ tc i1 => cases i1 with | nil =>
  k_dflt ktr_enter
  k_steps
  refine Stop.in ?_
  k_dflt (refine' spec_use (rgb_spec w loose mean mg mb T r g b _ _ _ hr hg hb) ?k1 ?k2 ?k3 ?k4 ?k5 ?kK ?kd ?ku ?_; (case k1 => k_asm); (case k2 => k_asm); (case k3 => k_asm); (case k4 => k_asm); (case k5 => k_asm); (case kK => exact rfl))
  case kd => ktr_room
  case ku => ktr_units
  rintro rv new h4 tk4 F4 N4 l4 ⟨Dt, u1, u2, u3, rfl, rfl⟩
  dsimp only at F4 N4
  have hm : -1000000000 < max r (max g b) ∧ max r (max g b) < 1000000000 := by omega
  unfold toldF at hf
  k_steps
  rename Fr h₀ L _ _ => FZ
  rename News h₀ L _ _ => NZ
  rename ∀ p ∈ _ ++ T, _ => lZ
  exact hret _ _ _ _ FZ (news_hd NZ (fun q hq => List.mem_append_right _ hq)) ⟨_, _, _, rfl, rfl, fun p hp => Nat.ne_of_lt (lZ p (List.mem_append_right _ hp))⟩
end Mine
end
section
open PySem PySem.W PyProof.Rows PySem.Calls
open PyProof.Rows.LCg
set_option maxRecDepth 100000
namespace Mine
noncomputable def spreadOf (r g b : Int) : Int := fint (toldF r g b)
noncomputable def sideX (r g b : Int) : UInt64 := Float64.add (Float64.mul (Float64.mul 4618441417868443648 (rgbH r g b)) (Float64.ofInt (spreadOf r g b))) 4602678819172646912
noncomputable def sideOf (r g b : Int) : Int := 100 * spreadOf r g b + (fint (sideX r g b)) % (spreadOf r g b)
noncomputable def rngOk (r g b : Int) : Bool := decide (0 ≤ r ∧ r < 1048576) && decide (0 ≤ g ∧ g < 1048576) && decide (0 ≤ b ∧ b < 1048576) && Float64.isFinite (toldF r g b)
noncomputable def sideOk (r g b : Int) : Bool := rngOk r g b && decide (0 < spreadOf r g b ∧ spreadOf r g b < 1000) && Float64.isFinite (sideX r g b)
noncomputable def on3 {α : Type} (f : Int → Int → Int → α) (d : α) (xs : List Int) : α := match xs with | [a, b, c] => f a b c | _ => d
noncomputable def mixAt (rows : List (List Int)) (i : Nat) : List Int := mixP (rows.getD i []) (rows.getD (i + 1) [])
noncomputable def sidesP (rows : List (List Int)) (n : Nat) : List Int := (List.range n).map fun i => on3 sideOf 0 (mixAt rows i)
theorem sidesP_succ {rows : List (List Int)} {n : Nat} : sidesP rows (n + 1) = sidesP rows n ++ [on3 sideOf 0 (mixAt rows n)] := by
  unfold sidesP
  rw [List.range_succ, List.map_append]; rfl
local macro_rules | `(tactic| k_mem) => `(tactic| first | assumption | exact List.Mem.tail _ (by assumption))
local macro_rules | `(tactic| k_all) => `(tactic| first | assumption | (refine allNe_lt (by assumption) ?_; show @LE.le Nat _ _ _; omega))
local macro_rules | `(tactic| walk_at "call ref") => `(tactic| (k_here; refine Stop.mk ?_))
local macro_rules | `(tactic| walk_at "call type:zip") => `(tactic| (k_here; refine Stop.mk ?_))
local macro_rules | `(tactic| walk_at "exec For Tuple Call") => `(tactic| (k_here; k_dflt (refine For_Z (by k_asm) (by rfl) (by rfl) (by rfl) (by rfl) ?_ (by with_unfolding_all passes_own))))
local macro_rules | `(tactic| walk_at "call builtin:list.append") => `(tactic| (k_here; (with_reducible show wpAny _ _ (call (Value.builtin _) [Value.ref _, _]) _ _ _); k_dflt (refine' append_lK ?k1 ?k2 ?k3 ?k4 ?_; (case k1 => k_asm); (case k2 => k_asm); (case k3 => k_upd); (case k4 => assumption); k_whole); intro h' F' N'; (try k_sweep)))
local macro_rules | `(tactic| walk_at "subscriptTail Name Slice ref ref") => `(tactic| (k_here; k_dflt (refine' slice_fromK (a := 1) ?k1 ?k2 ?k3 ?k4 ?k5 ?_ ?k6 ?k7; (case k1 => k_asm); (case k2 => k_asm); (case k3 => k_mem); (case k4 => (show _; omega)); (case k5 => (show _; omega)); (case k6 => with_unfolding_all rfl); (case k7 => (intro _; with_unfolding_all rfl)); k_whole); intro D' h' F' N' l1; (try k_lt l1); (try k_sweep)))
local macro_rules | `(tactic| walk_at "binaryOp Mult float int") => `(tactic| (k_here; refine mulfi_K (by omega) ?_))
local macro_rules | `(tactic| walk_at "call type:int") => `(tactic| (k_here; (with_reducible show wpAny _ _ (call _ [Value.float _ _]) _ _ _); refine intF_K rfl (by assumption) ?_))
set_option maxHeartbeats 8000000 in
theorem sides_spec (w : World) (loose mean mg mb) (T : Led) (D1 : Addr) (k1 n : Nat) (vs : List Value) (rows : List (List Int)) (h1 : (D1, listOf vs.toArray k1) ∈ T) (hr : RowsIn T vs rows) (h3 : ∀ xs ∈ rows, xs.length = 3) (hn : rows.length = n + 1 ∧ n < 1000)
   (hok : ∀ i, i < n → on3 sideOk false (mixAt rows i) = true) :
   SpecT PySem.Challenge.pw_wf0044_03 w (Mine.hd.heap_39 w.params) topProg loose mean mg mb 40 200 134 [.ref D1] T (fun v T' => ∃ D ws k, v = .ref D ∧ T' = (D, listOf ws.toArray k) :: T ∧ (∀ p ∈ T, p.1 ≠ D) ∧ IntsAre ws (sidesP rows n)) := by
  have hvl := hr.length
  unfold SpecT
  intro dp un gd cn cs a ccd cl outer A₀ base h₀ L m s Q E B F X N Tp hk hd hu hret
  refine wpAny_call ?_
  have hk0 : (PySem.Challenge.rw_wf0044_03 = PySem.Challenge.rw_wf0044_03 ∧ Mine.hd.heap_39 = Mine.hd.heap_39) := by (k_fill; exact ⟨rfl, rfl⟩)
  clear hk0
  k_dflt ktr_enter
  k_steps
  refine Stop.in ?_
  (rename News _ _ _ _ => Nn)
  (rename Fr _ _ _ _ => FF)
  rename _ ∧ AllLt _ T => lT
  refine with_fr FF fun m0 hm0 F0 => ?_
  refine name2 Nn fun D2 Ds hD2 hDs => ?_
  subst hD2 hDs
  have hT2 : ∀ p ∈ T, p.1 ≠ Ds := fun p hp => Nat.ne_of_lt (‹∀ p ∈ T, p.1 < Ds› p hp)
  have n0 : @Ne Nat D2 Ds := Nat.ne_of_gt lT.1
  obtain ⟨R, hR⟩ : ∃ R, R = (D2, listOf (List.drop 1 vs).toArray 0) :: T := ⟨_, rfl⟩
  have hRne : ∀ p ∈ R, p.1 ≠ Ds := by
    rw [hR]
    intro p hp
    rcases List.mem_cons.mp hp with rfl | hp
    · exact n0
    · exact hT2 p hp
  have hTR : ∀ p ∈ T, p ∈ R := by rw [hR]; exact fun _ h => .tail _ h
  have h2R : (D2, listOf (List.drop 1 vs).toArray 0) ∈ R := by rw [hR]; exact .head _
  have NS := news_swap Nn
  rw [← hR] at NS
  refine zip_forJ (n := n) (J := fun i m led => ∃ u ws k, m = mapD [Str.ofString "ahead", Str.ofString "behind", Str.ofString "hue", Str.ofString "spread"] u m0 ∧ led = (Ds, listOf (List.toArray ws) k) :: R ∧ ws.length = i ∧ IntsAre ws (sidesP rows i))
     rfl F0 NS (List.Mem.tail _ (hTR _ h1)) (List.Mem.tail _ h2R) (.inr ⟨by omega, by rw [List.length_drop]; omega⟩) (.inl (by rw [List.length_drop]; omega)) ?_ ?_ ?_ ?_
  · subst hm0
    exact ⟨_, [], 0, mapD_self, rfl, rfl, .nil⟩
  · rintro i m led ⟨u, ws, k, rfl, rfl, _, _⟩
    exact ⟨.tail _ (hTR _ h1), .tail _ h2R⟩
  · subst hm0
    rintro i v0 v1 m1 led h tk Z hv0 hv1 ⟨u, ws, k, rfl, rfl, hwl, hws⟩ hZ FT NT
    obtain ⟨xs, hxs, hxl⟩ := hr.at hv0
    rw [List.getElem?_drop] at hv1
    obtain ⟨xs', hxs', hxl'⟩ := hr.at hv1
    have hil : i < n := by
      have := (List.getElem?_eq_some_iff.mp hxs').1
      omega
    obtain ⟨dl, wl, kl, rfl, ml, il⟩ := hxl
    obtain ⟨dx, wx, kx, rfl, mx, ix⟩ := hxl'
    obtain ⟨a1, b1, c1, e1⟩ := three_of (h3 xs (List.mem_of_getElem? hxs))
    obtain ⟨a2, b2, c2, e2⟩ := three_of (h3 xs' (List.mem_of_getElem? hxs'))
    have hmix : mixAt rows i = [a1 + a2, b1 + b2, c1 + c2] := by
      rw [mixAt, List.getD_eq_getElem?_getD, hxs, List.getD_eq_getElem?_getD, show i + 1 = 1 + i from by omega, hxs', e1, e2]; rfl
    have ok := hok i hil
    rw [hmix] at ok
    simp only [on3, sideOk, rngOk, Bool.and_eq_true, decide_eq_true_eq] at ok
    obtain ⟨⟨⟨⟨⟨q1, q2⟩, q3⟩, q4⟩, q5⟩, q6⟩ := ok
    obtain ⟨W, hW⟩ : ∃ W, W = R ++ Z := ⟨_, rfl⟩
    rw [List.cons_append, ← hW] at NT
    have hRW : ∀ p ∈ R, p ∈ W := by rw [hW]; exact fun _ h => List.mem_append_left _ h
    have hWne : ∀ p ∈ W, p.1 ≠ Ds := by
      rw [hW]
      intro p hp
      rcases List.mem_append.mp hp with hp | hp
      · exact hRne p hp
      · exact hZ p hp (Ds, _) (.head _)
    rw [e1] at il
    rw [e2] at ix
    unfold sideX spreadOf at q6
    unfold spreadOf at q5
    k_steps
    refine Stop.in ?_
    k_dflt (refine' specT_use (mixed_spec w loose mean mg mb ((Ds, listOf (List.toArray ws) k) :: W) dl dx kl kx wl wx _ _ _ _ _ _ (.tail _ (hRW _ (hTR _ ml))) (.tail _ (hRW _ (hTR _ mx))) il ix) ?k1 ?k2 ?k3 ?k4 ?k5 ?kK ?ks ?kd ?ku ?_; (case k1 => k_asm); (case k2 => k_asm); (case k3 => k_asm); (case k4 => k_asm); (case k5 => k_asm); (case kK => exact rfl); (case ks => exact fun _ h => h))
    case kd => ktr_room
    case ku => ktr_units
    rintro rv5 T5 h5 tk5 F5 N5 ⟨D3, ys, k3, rfl, rfl, o3, hys⟩
    dsimp only at F5 N5
    have n1 : @Ne Nat D3 Ds := Ne.symm (o3 (Ds, _) (.head _))
    k_steps
    refine Stop.in ?_
    k_dflt (refine' specT_use (told_spec w loose mean mg mb ((D3, listOf (List.toArray ys) k3) :: (Ds, listOf (List.toArray ws) k) :: W) D3 k3 ys _ _ _ (.head _) hys q1 q2 q3 q4) ?k1 ?k2 ?k3 ?k4 ?k5 ?kK ?ks ?kd ?ku ?_; (case k1 => k_asm); (case k2 => k_asm); (case k3 => k_asm); (case k4 => k_asm); (case k5 => k_asm); (case kK => exact rfl); (case ks => exact fun _ h => h))
    case kd => ktr_room
    case ku => ktr_units
    rintro rv6 T6 h6 tk6 F6 N6 ⟨D6, u1, u2, rfl, rfl, o6⟩
    (try dsimp only at F6 N6)
    have n6 : @Ne Nat D6 Ds := Ne.symm (o6 (Ds, _) (.tail _ (.head _)))
    have hwz : ws.length < 1000000 := by omega
    k_steps
    rename Fr _ _ _ _ => FZ
    rename News _ _ _ _ => NZ
    refine TurnZ.fin2 FZ NZ hW ⟨_, _, _, mapD_of (by repeat (first | exact map_base | refine map_peel (by decide) ?_)), rfl, by rw [List.length_append, hwl]; rfl, ?_⟩
    rw [sidesP_succ, hmix]
    refine hws.append ?_
    rw [Int.fmod_eq_emod_of_nonneg _ (by omega)]
    exact IntsAre.cons _ _ IntsAre.nil
  · subst hm0
    rintro m1 led h tk ⟨u, ws, k, rfl, rfl, hwl, hws⟩ FT NT
    k_steps
    rename Fr h₀ L _ _ => FZ
    rename News h₀ L _ _ => NZ
    exact hret _ _ _ _ FZ (news_hd NZ hTR) ⟨Ds, ws, k, rfl, rfl, hT2, hws⟩
end Mine
end
section
open PySem PySem.W PyProof.Rows PySem.Calls
set_option maxRecDepth 100000
namespace Mine
theorem cells_four {ys : List Value} {d : List Int} {q0 q1 q2 q3 : Int} {ta tb tc td : Tok} (h : IntsAre ys (d.map fun c => c % 1000000)) (hl : ys.length ≤ 4) (hq : (0 ≤ q0 ∧ q0 < 1000000) ∧ (0 ≤ q1 ∧ q1 < 1000000) ∧ (0 ≤ q2 ∧ q2 < 1000000) ∧ (0 ≤ q3 ∧ q3 < 1000000)) :
    ∃ c0 c1 c2 c3 t0 t1 t2 t3, ys ++ [.int q0 ta, .int q1 tb, .int q2 tc, .int q3 td].drop ys.length = [.int c0 t0, .int c1 t1, .int c2 t2, .int c3 t3] ∧ (0 ≤ c0 ∧ c0 < 1000000) ∧ (0 ≤ c1 ∧ c1 < 1000000) ∧ (0 ≤ c2 ∧ c2 < 1000000) ∧ (0 ≤ c3 ∧ c3 < 1000000) := by
  have r : ∀ x : Int, 0 ≤ x % 1000000 ∧ x % 1000000 < 1000000 := fun x => by omega
  obtain ⟨h0, h1, h2, h3⟩ := hq
  rcases d with _ | ⟨a, d⟩
  · cases h
    exact ⟨q0, q1, q2, q3, ta, tb, tc, td, rfl, h0, h1, h2, h3⟩
  rcases d with _ | ⟨b, d⟩
  · cases h with | cons _ t0 h => cases h with | nil =>
    exact ⟨_, q1, q2, q3, t0, tb, tc, td, rfl, r a, h1, h2, h3⟩
  rcases d with _ | ⟨c, d⟩
  · cases h with | cons _ t0 h => cases h with | cons _ t1 h => cases h with | nil =>
    exact ⟨_, _, q2, q3, t0, t1, tc, td, rfl, r a, r b, h2, h3⟩
  rcases d with _ | ⟨e, d⟩
  · cases h with | cons _ t0 h => cases h with | cons _ t1 h => cases h with | cons _ t2 h => cases h with | nil =>
    exact ⟨_, _, _, q3, t0, t1, t2, td, rfl, r a, r b, r c, h3⟩
  rcases d with _ | ⟨f, d⟩
  · cases h with | cons _ t0 h => cases h with | cons _ t1 h => cases h with | cons _ t2 h => cases h with | cons _ t3 h => cases h with | nil =>
    exact ⟨_, _, _, _, t0, t1, t2, t3, rfl, r a, r b, r c, r e⟩
  · cases h with | cons _ t0 h => cases h with | cons _ t1 h => cases h with | cons _ t2 h => cases h with | cons _ t3 h => cases h with | cons _ t4 h =>
    simp only [List.length_cons] at hl
    omega
theorem tabs_start {P P' : Addr} : Tabs P P' [(P, tabObj #[]), (P', tabObj #[])] := ⟨[(P, tabObj #[])], [(P', tabObj #[])], rfl, .inl rfl, .inl rfl⟩
end Mine
namespace Mine
theorem name_cells {h₀ h : Heap} {L d0 d5 : Addr} {o0 o5 : Obj} {p1 p2 p3 p4 : Addr × Obj} {T : Led} {G : Prop} (N : News h₀ L h ((d0, o0) :: p1 :: p2 :: p3 :: p4 :: (d5, o5) :: T))
    (k : ∀ Dc Lc, Dc = d0 → Lc = d5 → News h₀ L h ((Lc, o5) :: (Dc, o0) :: T) → G) : G :=
  k d0 d5 rfl rfl fun p hp => by
    rcases List.mem_cons.mp hp with rfl | hp
    · exact N _ (.tail _ (.tail _ (.tail _ (.tail _ (.tail _ (.head _))))))
    · rcases List.mem_cons.mp hp with rfl | hp
      · exact N _ (.head _)
      · exact N _ (.tail _ (.tail _ (.tail _ (.tail _ (.tail _ (.tail _ hp))))))
end Mine
namespace Mine
theorem news_tail {h₀ h : Heap} {L : Addr} {p : Addr × Obj} {T : Led} (N : News h₀ L h (p :: T)) : News h₀ L h T := fun q hq => N q (.tail _ hq)
theorem name_signs {h₀ h : Heap} {L ds d1 d2 : Addr} {os o1 o2 : Obj} {T : Led} {G : Prop} (N : News h₀ L h ((ds, os) :: (d1, o1) :: (d2, o2) :: T)) (k : ∀ W, W = (ds, os) :: (d1, o1) :: (d2, o2) :: T → News h₀ L h W → (ds, os) ∈ W → (d1, o1) ∈ W → (d2, o2) ∈ W → (∀ p ∈ T, p ∈ W) → G) : G :=
  k _ rfl N (.head _) (.tail _ (.head _)) (.tail _ (.tail _ (.head _))) fun _ h => .tail _ (.tail _ (.tail _ h))
end Mine
end
section
open PySem PySem.W PyProof.Rows PySem.Calls
open PyProof.Rows.LCg
set_option maxRecDepth 100000
namespace Mine
open PyProof.Rows.LCt
section
variable {prog : Program} {w : World} {A : Around} {E : Value → Shared → Prop} {s : Shared} {h₀ : Heap} {L : Addr} {m : Str → Option Value} {news : Led} {l l' : Addr} {vs vs' : List Value} {ns ns' : List Int} {k k' : Nat}
theorem sorted_K {Q : Value → Shared → Prop} (F : Fr h₀ L s.heap m) (N : News h₀ L s.heap news) (hl : (l, listOf vs.toArray k) ∈ news) (hi : IntsAre vs ns) (h64 : ns.length < 64)
    (h : ∀ D vs' ns' c h', Fr h₀ L h' m → News h₀ L h' ((D, PySem.W.listOf vs'.toArray c) :: news) → (∀ q ∈ news, q.1 < D) → IntsAre vs' ns' → ns'.Perm ns → ns'.Pairwise (· ≤ ·) → Q (.ref D) { s with heap := h' }) :
    wpAny (model prog w) A (call (.builtin "sorted") [.ref l]) Q E s :=
  kso_sorted F N (PySem.IsL.isList (n := k) (N _ hl).1) hi h64 fun D vs' ns' c h' F' N' l1 i' _ p o _ => h D vs' ns' c h' F' N' l1 i' p o
theorem eqints_K {Q : Value → Shared → Prop} (N : News h₀ L s.heap news) (hl : (l, listOf vs.toArray k) ∈ news) (hl' : (l', listOf vs'.toArray k') ∈ news) (hi : IntsAre vs ns) (hj : IntsAre vs' ns') (hu : A.units + 64 < cLine) (h : Q (.bool (decide (ns = ns'))) s) :
    wpAny (model prog w) A (compareOp .Eq (.ref l) (.ref l')) Q E s :=
  ke_eq_ints (PySem.IsL.isList (n := k) (N _ hl).1) (PySem.IsL.isList (n := k') (N _ hl').1) hi hj hu h
theorem neints_K {Q : Value → Shared → Prop} (N : News h₀ L s.heap news) (hl : (l, listOf vs.toArray k) ∈ news) (hl' : (l', listOf vs'.toArray k') ∈ news) (hi : IntsAre vs ns) (hj : IntsAre vs' ns') (hu : A.units + 64 < cLine) (h : Q (.bool (!decide (ns = ns'))) s) :
    wpAny (model prog w) A (compareOp .NotEq (.ref l) (.ref l')) Q E s :=
  ke_ne_ints (PySem.IsL.isList (n := k) (N _ hl).1) (PySem.IsL.isList (n := k') (N _ hl').1) hi hj hu h
theorem step_dedup_new {l : List Int} {x : Int} (h : x ∉ l) : PyProof.Rows.step_dedup l x = l ++ [x] := by
  unfold PyProof.Rows.step_dedup
  rw [if_neg]
  simpa using h
theorem dedup_nodup : ∀ {xs acc : List Int}, (acc ++ xs).Nodup → xs.foldl PyProof.Rows.step_dedup acc = acc ++ xs
  | [], acc, _ => by simp
  | x :: xs, acc, h => by
    have hx : x ∉ acc := fun hm => by
      rw [List.nodup_append] at h
      exact h.2.2 x hm x (.head _) rfl
    rw [List.foldl_cons, step_dedup_new hx, dedup_nodup (by simpa using h)]
    simp
theorem firstMet_nodup {ns : List Int} (h : ns.Nodup) : PyProof.Rows.firstMet (fun i => ns.getD i 0) ns.length = ns := by
  unfold PyProof.Rows.firstMet
  have e : (List.range ns.length).map (fun i => ns.getD i 0) = ns := by
    apply List.ext_getElem?
    intro i
    rw [List.getElem?_map]
    by_cases hi : i < ns.length
    · rw [List.getElem?_range hi, List.getElem?_eq_getElem hi]; simp [hi]
    · rw [List.getElem?_eq_none (by simpa using hi), List.getElem?_eq_none (by simpa using hi)]; rfl
  rw [e, dedup_nodup (by simpa using h)]
  rfl
theorem setlen_K {Q : Value → Shared → Prop} (F : Fr h₀ L s.heap m) (N : News h₀ L s.heap news) (hh : A.handled = none) (hl : (l, listOf vs.toArray k) ∈ news) (hi : IntsAre vs ns) (hd : ns.Nodup) (h64 : ns.length < 64)
    (h : ∀ D h' (tk : Nat) o, Fr h₀ L h' m → News h₀ L h' ((D, o) :: news) → (∀ p ∈ news, p.1 < D) → o.SetObjOf (intKind prog w) (fun k' => ns.any (· == k')) ns.length → Q (.ref D) { s with heap := h', toks := tk }) :
    wpAny (model prog w) A (call (.type "set") [.ref l]) Q E s := by
  have hl' : s.heap.IsList l vs.toArray := PySem.IsL.isList (n := k) (N _ hl).1
  have hvn : vs.length = ns.length := IntsAre.length hi
  have hsz : vs.toArray.size = vs.length := List.size_toArray
  refine PySem.call_set_list (items := vs.toArray) (ns := ns) hh hl' (by simpa using hi) (by rw [hsz, hvn]; unfold scanBound; omega) fun h' tk hS hk => ?_
  rw [hsz, hvn, firstMet_nodup hd] at hS
  obtain ⟨o, ho, hso⟩ := hS.objOf
  obtain ⟨oL, _, _, hL, _⟩ := F.ns
  have hLlt : L < s.heap.objs.size := Heap.lt_size hL
  refine h _ h' tk o ⟨F.ns.at' fun o' e => hk L o' hLlt e, fun b o' e => hk b o' (Heap.lt_size (F.keep b o' e)) (F.keep b o' e), F.above⟩ (fun p hp => ?_) (fun p hp => Heap.lt_size (N p hp).1) hso
  rcases List.mem_cons.mp hp with rfl | hp
  · refine ⟨ho, Nat.ne_of_gt hLlt, ?_⟩
    cases hq : h₀.get? s.heap.objs.size with
    | none => rfl
    | some o' => exact absurd (Heap.lt_size (F.keep _ _ hq)) (Nat.lt_irrefl _)
  · exact ⟨hk _ _ (Heap.lt_size (N p hp).1) (N p hp).1, (N p hp).2.1, (N p hp).2.2⟩
theorem lenset_K {D : Addr} {o : Obj} {S : Int → Bool} {n : Nat} {T : Led} {Q : Value → Shared → Prop} (N : News h₀ L s.heap ((D, o) :: T)) (hso : o.SetObjOf (intKind prog w) S n) (hfit : (n : Int) < 2 ^ 63)
    (h : Q (.int n (s.toks + 1)) { s with toks := s.toks + 1 + 1 }) : wpAny (model prog w) A (call (.builtin "len") [.ref D]) Q E s :=
  len_sl1 (own := []) N hso hfit h
theorem comp_filt {ct elt : Expr} {env : Env} {x : Str} {scope : Scope} {cl : List (Str × Addr)} {S : Led → Prop} {Fin : List Value → Led → Prop} (p : Int → Bool)
    (hi : IntsAre vs ns)
    (turn : ∀ c t ys I oI C oC D m₂ h tk (E' : Value → Shared → Prop), c ∈ ns → NsObj oC m₂ → m₂ x = some (.int c t) → Fr h₀ L h m → News h₀ L h ((I, oI) :: (C, oC) :: (D, lst ys) :: news) → (∀ p ∈ news, p.1 ≠ I ∧ p.1 ≠ C ∧ p.1 ≠ D) → ((@Ne Nat I C) ∧ (@Ne Nat I D) ∧ (@Ne Nat C D)) →
      wpAny (model prog w) A (isTrue ct (compEnvC scope cl C env) (eval ct (compEnvC scope cl C env))) (fun ok s' => ok = p c ∧ if ok = true then
        wpAny (model prog w) A (eval elt (compEnvC scope cl C env)) (CompEnd h₀ L m { s with heap := h, toks := tk } I oI C oC D (lst ys) S (fun y news' => news' = news ∧ ∃ t, y = .int c t)) E' s'
        else CompEnd h₀ L m { s with heap := h, toks := tk } I oI C oC D (lst ys) S (fun _ news' => news' = news) Value.none s') E' { s with heap := h, toks := tk })
    (fin : ∀ ys, IntsAre ys (ns.filter p) → Fin ys news) :
    CompRestT prog w A h₀ L m env ct elt x scope cl s S (fun i v => vs.toArray[i]? = some v) Fin vs.toArray.size 0 [] news := by
  have key : ∀ (ms done : List Int) (ws : List Value) (i : Nat) (ys : List Value), ns = done ++ ms → IntsAre ws ms → vs.drop i = ws → IntsAre ys (done.filter p) →
      CompRestT prog w A h₀ L m env ct elt x scope cl s S (fun i v => vs.toArray[i]? = some v) Fin ms.length i ys news := by
    intro ms
    induction ms with
    | nil =>
      intro done ws i ys e _ _ hy
      refine CompRestT.zero (fin ys ?_)
      rw [e, List.append_nil]; exact hy
    | cons c ms ih =>
      intro done ws i ys e hw hd hy
      cases hw with | cons _ t hw => ?_
      rename_i ws'
      have hat : vs[i]? = some (.int c t) := by
        have := congrArg (fun l => l[0]?) hd
        simpa using this
      have hd2 : vs.drop (i + 1) = ws' := by
        rw [← List.drop_drop, hd]; rfl
      refine CompRestT.succ ?_
      intro v I oI C oC D m₂ h tk E' hv hC hx F N off ne
      have hv' : v = .int c t := by
        rw [List.getElem?_toArray, hat] at hv; exact (Option.some.inj hv).symm
      subst hv'
      refine wpAny_mono (turn c t ys I oI C oC D m₂ h tk E' (by rw [e]; simp) hC hx F N off.mem ne) (fun ok s₂ hq => ?_) fun _ _ e => e
      obtain ⟨hok, hq⟩ := hq
      cases ok with
      | true =>
        simp only [if_true] at hq ⊢
        refine wpAny_mono hq (fun y s₃ hq => ?_) fun _ _ e => e
        obtain ⟨h', tk', nw, e', F', N', off', hS, rfl, t', rfl⟩ := hq
        refine ⟨h', tk', _, e', F', N', off', hS, ih (done ++ [c]) ws' (i + 1) _ (by rw [e]; simp) hw hd2 ?_⟩
        rw [List.filter_append, List.filter_cons, ← hok]
        exact hy.append (.cons _ _ .nil)
      | false =>
        simp only [Bool.false_eq_true, if_false] at hq ⊢
        obtain ⟨h', tk', nw, e', F', N', off', hS, rfl⟩ := hq
        refine ⟨h', tk', _, e', F', N', off', hS, ih (done ++ [c]) ws' (i + 1) _ (by rw [e]; simp) hw hd2 ?_⟩
        rw [List.filter_append, List.filter_cons, ← hok]
        simpa using hy
  have hlen : vs.toArray.size = ns.length := by rw [List.size_toArray]; exact IntsAre.length hi
  rw [hlen]
  exact key ns [] vs 0 [] rfl hi rfl .nil
end
theorem rising_perm : ∀ {a b : List Int}, a.Perm b → a.Pairwise (· ≤ ·) → b.Pairwise (· ≤ ·) → a = b
  | a, b, p, ha, hb => p.eq_of_pairwise (fun x y _ _ h1 h2 => Int.le_antisymm h1 h2) ha hb
end Mine
end
section
open PySem PySem.W PyProof.Rows PySem.Calls
set_option maxRecDepth 100000
namespace Mine
theorem sign_cases {s : Int} (h : 1 ≤ s ∧ s ≤ 2) : s = 1 ∨ s = 2 := by omega
theorem row_same {sa sb sc : Int} (h : ∀ s ∈ [sa, sb, sc], 1 ≤ s ∧ s ≤ 2) : exchI (rowAt sa [sb, sc] 2) = rowAt sa [sb, sc] 2 := by
  rcases sign_cases (h sa (by simp)) with rfl | rfl <;> rcases sign_cases (h sb (by simp)) with rfl | rfl <;> rcases sign_cases (h sc (by simp)) with rfl | rfl <;> decide +kernel
noncomputable def paintT (t : Int) : List Int := if t % 3 = 0 then [1, 0, 0] else if t % 3 = 1 then [0, 1, 0] else [0, 0, 1]
theorem paint_all : ((List.range 64).all fun i => decide (paintI (i : Int) = paintT (i : Int))) = true := by decide +kernel
theorem paint_at {t : Int} (h : 0 ≤ t ∧ t < 64) : paintI t = paintT t := by
  have h1 := List.all_eq_true.mp paint_all t.toNat (List.mem_range.mpr (by omega))
  rw [Int.toNat_of_nonneg h.1] at h1
  exact of_decide_eq_true h1
noncomputable def rowsT (ks : List Int) (th : Int) (n : Nat) : List (List Int) := (List.range n).map fun j => paintT (third ks th (j + 1))
theorem rows_at {ks : List Int} {th : Int} (hk : ∀ c ∈ ks, 0 ≤ c ∧ c ≤ 2) (ht : 0 ≤ th ∧ th < 3) : stepsP ks th 27 = rowsT ks th 27 := by
  unfold stepsP rowsT
  apply List.map_congr_left
  intro j hj
  have := third_rng hk ht.1 (j + 1)
  have := List.mem_range.mp hj
  exact paint_at (by omega)
noncomputable def ks3 (sa sb sc : Int) : List Int := 0 :: rowAt sa [sb, sc] 2
noncomputable def rows3 (sa sb sc f : Int) : List (List Int) := rowsT (ks3 sa sb sc) f 27
noncomputable def lights3 (sa sb sc f : Int) : List (List Int) := lightsP (rows3 sa sb sc f) 28
noncomputable def sidesOk3 (sa sb sc f : Int) : Bool := (List.range 27).all fun i => on3 sideOk false (mixAt (lights3 sa sb sc f) i)
noncomputable def cases3 : List (Int × Int × Int × Int) := [1, 2].flatMap fun a => [1, 2].flatMap fun b => [1, 2].flatMap fun c => [0, 1, 2].map fun f => (a, b, c, f)
theorem in_cases {sa sb sc f : Int} (h : ∀ s ∈ [sa, sb, sc], 1 ≤ s ∧ s ≤ 2) (hf : 0 ≤ f ∧ f < 3) : (sa, sb, sc, f) ∈ cases3 := by
  have hf3 : f = 0 ∨ f = 1 ∨ f = 2 := by omega
  rcases sign_cases (h sa (by simp)) with rfl | rfl <;> rcases sign_cases (h sb (by simp)) with rfl | rfl <;> rcases sign_cases (h sc (by simp)) with rfl | rfl <;> rcases hf3 with rfl | rfl | rfl <;> decide
theorem sidesOk_all : (cases3.all fun q => sidesOk3 q.1 q.2.1 q.2.2.1 q.2.2.2) = true := by decide +kernel
end Mine
end
section
open PySem PySem.W PyProof.Rows PySem.Calls
set_option maxRecDepth 100000
namespace Mine
theorem RowsIn.slim {W : Led} {vs : List Value} {rows : List (List Int)} (h : RowsIn W vs rows) : ∃ R, Cl R ∧ (∀ p ∈ R, p ∈ W) ∧ RowsIn R vs rows := by
  induction h with
  | nil => exact ⟨[], Cl.nil, fun _ h => (nomatch h), .nil⟩
  | cons a _ ih =>
    obtain ⟨R, h1, h2, h3⟩ := ih
    obtain ⟨d, ws, k, rfl, hm, hi⟩ := a
    refine ⟨(d, listOf ws.toArray k) :: R, Cl.cons (by simp) h1, fun p hp => ?_, .cons ⟨d, ws, k, rfl, .head _, hi⟩ (h3.mono fun _ h => .tail _ h)⟩
    rcases List.mem_cons.mp hp with rfl | hp
    · exact hm
    · exact h2 p hp
theorem RowsIn.get {W : Led} {vs : List Value} {rows : List (List Int)} (h : RowsIn W vs rows) {i : Nat} (hi : i < rows.length) : ∃ v xs, vs[i]? = some v ∧ rows[i]? = some xs ∧ isL W v xs := by
  have hv : i < vs.length := by rw [h.length]; exact hi
  obtain ⟨xs, h1, h2⟩ := h.at (List.getElem?_eq_getElem hv)
  exact ⟨_, xs, List.getElem?_eq_getElem hv, h1, h2⟩
theorem rowsT_len {ks : List Int} {th : Int} {n : Nat} : (rowsT ks th n).length = n := by unfold rowsT; simp
theorem rowsT_three {ks : List Int} {th : Int} {n : Nat} : ∀ xs ∈ rowsT ks th n, xs.length = 3 := by
  intro xs h
  unfold rowsT at h
  obtain ⟨j, _, rfl⟩ := List.mem_map.mp h
  unfold paintT
  split
  · rfl
  · split <;> rfl
theorem lightsP_len {rows : List (List Int)} {n : Nat} : (lightsP rows n).length = n := by unfold lightsP; simp
theorem lightsP_three {rows : List (List Int)} {n : Nat} (h : ∀ xs ∈ rows, xs.length = 3) : ∀ xs ∈ lightsP rows n, xs.length = 3 := by
  intro xs hx
  unfold lightsP at hx
  obtain ⟨j, _, rfl⟩ := List.mem_map.mp hx
  exact lightAt_len h j
noncomputable def byAll3 (q : Int × Int × Int × Int) : Bool :=
  let ls := lights3 q.1 q.2.1 q.2.2.1 q.2.2.2
  let rs := rows3 q.1 q.2.1 q.2.2.1 q.2.2.2
  (List.range 8).all fun w => (List.range 27).all fun x =>
    let st := bdAt (6 + (w : Int)) q.2.2.2 ((figAt (x : Int) 3).reverse.zip [q.2.2.1, q.2.1, q.1]) 3
    decide (some (figs3 (6 + w) st.1) = ls[x]?) && decide (some (figs3 (6 + w) st.2) = rs[x]?)
theorem by_all : (cases3.all byAll3) = true := by decide +kernel
theorem by_at {sa sb sc f n x : Int} (h : ∀ s ∈ [sa, sb, sc], 1 ≤ s ∧ s ≤ 2) (hf : 0 ≤ f ∧ f < 3) (hn : 6 ≤ n ∧ n < 14) (hx : 0 ≤ x ∧ x < 27) :
    some (figs3 n.toNat (bdAt n f ((figAt x 3).reverse.zip [sc, sb, sa]) 3).1) = (lights3 sa sb sc f)[x.toNat]? ∧ some (figs3 n.toNat (bdAt n f ((figAt x 3).reverse.zip [sc, sb, sa]) 3).2) = (rows3 sa sb sc f)[x.toNat]? := by
  have h1 := List.all_eq_true.mp by_all _ (in_cases h hf)
  unfold byAll3 at h1
  have h2 := List.all_eq_true.mp h1 (n - 6).toNat (List.mem_range.mpr (by omega))
  have h3 := List.all_eq_true.mp h2 x.toNat (List.mem_range.mpr (by omega))
  rw [Bool.and_eq_true, decide_eq_true_eq, decide_eq_true_eq] at h3
  have e1 : 6 + ((n - 6).toNat : Int) = n := by omega
  have e2 : 6 + (n - 6).toNat = n.toNat := by omega
  have e3 : ((x.toNat : Nat) : Int) = x := by omega
  simp only [e1, e2, e3] at h3
  exact h3
theorem sides_at {sa sb sc f : Int} (h : ∀ s ∈ [sa, sb, sc], 1 ≤ s ∧ s ≤ 2) (hf : 0 ≤ f ∧ f < 3) : ∀ i, i < 27 → on3 sideOk false (mixAt (lights3 sa sb sc f) i) = true := by
  have h1 := List.all_eq_true.mp sidesOk_all _ (in_cases h hf)
  intro i hi
  exact List.all_eq_true.mp h1 i (List.mem_range.mpr hi)
end Mine
end
section
open PySem PySem.W PyProof.Rows PySem.Calls
set_option maxRecDepth 100000
namespace Mine
theorem turn_facts {R : Led} {vs7 vs6 : List Value} {sa sb sc f n x : Int} (qL : RowsIn R vs7 (lights3 sa sb sc f)) (qS : RowsIn R vs6 (rows3 sa sb sc f)) (h : ∀ s ∈ [sa, sb, sc], 1 ≤ s ∧ s ≤ 2) (hf : 0 ≤ f ∧ f < 3) (hn : 6 ≤ n ∧ n < 14) (hx : 0 ≤ x ∧ x < 27) :
    (∃ d ws k, vs7[x.toNat]? = some (.ref d) ∧ (d, listOf ws.toArray k) ∈ R ∧ IntsAre ws (figs3 n.toNat (bdAt n f ((figAt x 3).reverse.zip [sc, sb, sa]) 3).1)) ∧
    ∃ d ws k, vs6[x.toNat]? = some (.ref d) ∧ (d, listOf ws.toArray k) ∈ R ∧ IntsAre ws (figs3 n.toNat (bdAt n f ((figAt x 3).reverse.zip [sc, sb, sa]) 3).2) := by
  obtain ⟨b1, b2⟩ := by_at h hf hn hx
  obtain ⟨v, xs, h1, h2, d, ws, k, rfl, hm, hw⟩ := qL.get (i := x.toNat) (by unfold lights3; rw [lightsP_len]; omega)
  obtain ⟨v', xs', h1', h2', d', ws', k', rfl, hm', hw'⟩ := qS.get (i := x.toNat) (by unfold rows3; rw [rowsT_len]; omega)
  rw [← b1] at h2
  rw [← b2] at h2'
  cases h2
  cases h2'
  exact ⟨⟨d, ws, k, h1, hm, hw⟩, d', ws', k', h1', hm', hw'⟩
end Mine
end
section
open PySem PySem.W PyProof.Rows PySem.Calls
set_option maxRecDepth 100000
namespace Mine
noncomputable def sideTab : List (List Int) := [[100, 201, 302, 403, 300, 301, 401, 501, 601, 701, 702, 703, 704, 603, 502, 503, 504, 500, 605, 705, 805, 905, 906, 907, 1007, 1107, 1207],
  [100, 201, 302, 403, 300, 301, 401, 501, 601, 701, 702, 703, 704, 603, 502, 503, 504, 500, 605, 705, 805, 905, 906, 907, 1007, 1107, 1207],
  [100, 201, 302, 403, 300, 301, 401, 501, 601, 701, 702, 703, 704, 603, 502, 503, 504, 500, 605, 705, 805, 905, 906, 907, 1007, 1107, 1207],
  [100, 201, 302, 403, 300, 301, 401, 501, 601, 500, 504, 503, 502, 603, 704, 703, 702, 701, 700, 801, 902, 1003, 903, 803, 904, 1005, 1106],
  [100, 201, 302, 403, 300, 301, 401, 501, 601, 500, 504, 503, 502, 603, 704, 703, 702, 701, 700, 801, 902, 1003, 903, 803, 904, 1005, 1106],
  [100, 201, 302, 403, 300, 301, 401, 501, 601, 500, 504, 503, 502, 603, 704, 703, 702, 701, 700, 801, 902, 1003, 903, 803, 904, 1005, 1106],
  [100, 201, 302, 301, 300, 403, 503, 504, 500, 601, 501, 401, 502, 603, 704, 805, 705, 605, 706, 807, 908, 907, 906, 905, 904, 1005, 1106],
  [100, 201, 302, 301, 300, 403, 503, 504, 500, 601, 501, 401, 502, 603, 704, 805, 705, 605, 706, 807, 908, 907, 906, 905, 904, 1005, 1106],
  [100, 201, 302, 301, 300, 403, 503, 504, 500, 601, 501, 401, 502, 603, 704, 805, 705, 605, 706, 807, 908, 907, 906, 905, 904, 1005, 1106],
  [100, 201, 302, 301, 300, 403, 503, 504, 500, 605, 705, 805, 704, 603, 502, 401, 501, 601, 701, 702, 703, 803, 903, 1003, 1103, 1104, 1105],
  [100, 201, 302, 301, 300, 403, 503, 504, 500, 605, 705, 805, 704, 603, 502, 401, 501, 601, 701, 702, 703, 803, 903, 1003, 1103, 1104, 1105],
  [100, 201, 302, 301, 300, 403, 503, 504, 500, 605, 705, 805, 704, 603, 502, 401, 501, 601, 701, 702, 703, 803, 903, 1003, 1103, 1104, 1105],
  [100, 201, 301, 302, 300, 401, 502, 501, 500, 601, 702, 803, 703, 603, 503, 403, 504, 605, 706, 705, 704, 805, 906, 1007, 1108, 1107, 1106],
  [100, 201, 301, 302, 300, 401, 502, 501, 500, 601, 702, 803, 703, 603, 503, 403, 504, 605, 706, 705, 704, 805, 906, 1007, 1108, 1107, 1106],
  [100, 201, 301, 302, 300, 401, 502, 501, 500, 601, 702, 803, 703, 603, 503, 403, 504, 605, 706, 705, 704, 805, 906, 1007, 1108, 1107, 1106],
  [100, 201, 301, 302, 300, 401, 502, 501, 500, 605, 504, 403, 503, 603, 703, 803, 702, 601, 701, 801, 901, 902, 903, 904, 905, 1005, 1105],
  [100, 201, 301, 302, 300, 401, 502, 501, 500, 605, 504, 403, 503, 603, 703, 803, 702, 601, 701, 801, 901, 902, 903, 904, 905, 1005, 1105],
  [100, 201, 301, 302, 300, 401, 502, 501, 500, 605, 504, 403, 503, 603, 703, 803, 702, 601, 701, 801, 901, 902, 903, 904, 905, 1005, 1105],
  [100, 201, 301, 401, 300, 302, 403, 504, 605, 500, 501, 502, 503, 603, 703, 704, 705, 706, 700, 807, 907, 1007, 906, 805, 905, 1005, 1105],
  [100, 201, 301, 401, 300, 302, 403, 504, 605, 500, 501, 502, 503, 603, 703, 704, 705, 706, 700, 807, 907, 1007, 906, 805, 905, 1005, 1105],
  [100, 201, 301, 401, 300, 302, 403, 504, 605, 500, 501, 502, 503, 603, 703, 704, 705, 706, 700, 807, 907, 1007, 906, 805, 905, 1005, 1105],
  [100, 201, 301, 401, 300, 302, 403, 504, 605, 706, 705, 704, 703, 603, 503, 502, 501, 500, 601, 702, 803, 904, 903, 902, 1003, 1104, 1205],
  [100, 201, 301, 401, 300, 302, 403, 504, 605, 706, 705, 704, 703, 603, 503, 502, 501, 500, 601, 702, 803, 904, 903, 902, 1003, 1104, 1205],
  [100, 201, 301, 401, 300, 302, 403, 504, 605, 706, 705, 704, 703, 603, 503, 502, 501, 500, 601, 702, 803, 904, 903, 902, 1003, 1104, 1205]]
theorem sides_tab : (cases3.map fun q => sidesP (lights3 q.1 q.2.1 q.2.2.1 q.2.2.2) 27) = sideTab := by decide +kernel
theorem tab_good : (sideTab.all fun S => decide S.Nodup && (S.filter fun x => decide (x < 600)).isPerm (nearP 5)) = true := by decide +kernel
theorem near_rising : (nearP 5).Pairwise (· ≤ ·) := by decide +kernel
theorem sides_good {sa sb sc f : Int} (h : ∀ s ∈ [sa, sb, sc], 1 ≤ s ∧ s ≤ 2) (hf : 0 ≤ f ∧ f < 3) :
    (sidesP (lights3 sa sb sc f) 27).Nodup ∧ ((sidesP (lights3 sa sb sc f) 27).filter fun x => decide (x < 600)).Perm (nearP 5) := by
  have h1 : sidesP (lights3 sa sb sc f) 27 ∈ sideTab := by
    rw [← sides_tab]
    exact List.mem_map.mpr ⟨(sa, sb, sc, f), in_cases h hf, rfl⟩
  have h2 := List.all_eq_true.mp tab_good _ h1
  rw [Bool.and_eq_true, decide_eq_true_eq, List.isPerm_iff] at h2
  exact h2
noncomputable def twelfth (f : Int) (ss : List Int) (i : Nat) : Int := (ss.take i).foldl (fun t s => t + 3 - 2 * s) (4 * f)
theorem twelfth_succ {f s : Int} {ss : List Int} {i : Nat} (h : ss[i]? = some s) : twelfth f ss (i + 1) = twelfth f ss i + 3 - 2 * s := by
  unfold twelfth
  rw [List.take_add_one, h, Option.toList_some, List.foldl_append]; rfl
noncomputable def twF (r g b : Int) : UInt64 := Float64.add (Float64.mul 4622945017495814144 (rgbH r g b)) 4602678819172646912
noncomputable def foldOk (f : Int) (ss : List Int) (i : Nat) (r g b : Int) : Bool := rngOk r g b && (Float64.isFinite (twF r g b) && (decide (fint (twF r g b) % 12 = twelfth f ss (i + 1) % 12) && decide (some (fint (toldF r g b)) = [2, 3, 6][i]?)))
theorem folds_all : (cases3.all fun q => (List.range 3).all fun i => on3 (foldOk q.2.2.2 [q.1, q.2.1, q.2.2.1] i) false ((lights3 q.1 q.2.1 q.2.2.1 q.2.2.2).getD (3 ^ (i + 1)) [])) = true := by decide +kernel
theorem fold_at {R : Led} {vs7 : List Value} {sa sb sc f : Int} (qL : RowsIn R vs7 (lights3 sa sb sc f)) (h : ∀ s ∈ [sa, sb, sc], 1 ≤ s ∧ s ≤ 2) (hf : 0 ≤ f ∧ f < 3) {i : Nat} (hi : i < 3) :
    ∃ d ws k r g b, vs7[3 ^ (i + 1)]? = some (.ref d) ∧ (d, listOf ws.toArray k) ∈ R ∧ IntsAre ws [r, g, b] ∧ ((0 ≤ r ∧ r < 1048576) ∧ (0 ≤ g ∧ g < 1048576) ∧ (0 ≤ b ∧ b < 1048576)) ∧ Float64.isFinite (toldF r g b) = true ∧
      Float64.isFinite (twF r g b) = true ∧ fint (twF r g b) % 12 = twelfth f [sa, sb, sc] (i + 1) % 12 ∧ some (fint (toldF r g b)) = [2, 3, 6][i]? := by
  have hlt : 3 ^ (i + 1) < 28 := by
    have : i = 0 ∨ i = 1 ∨ i = 2 := by omega
    rcases this with rfl | rfl | rfl <;> decide
  obtain ⟨v, xs, h1, h2, d, ws, k, rfl, hm, hw⟩ := qL.get (i := 3 ^ (i + 1)) (by unfold lights3; rw [lightsP_len]; exact hlt)
  have h3 := List.all_eq_true.mp folds_all _ (in_cases h hf)
  have h4 := List.all_eq_true.mp h3 i (List.mem_range.mpr hi)
  rw [List.getD_eq_getElem?_getD, h2] at h4
  change on3 _ false xs = true at h4
  obtain ⟨r, g, b, rfl⟩ : ∃ r g b, xs = [r, g, b] := by
    unfold on3 at h4
    split at h4
    · exact ⟨_, _, _, rfl⟩
    · cases h4
  change foldOk _ _ _ _ _ _ = true at h4
  unfold foldOk rngOk at h4
  simp only [Bool.and_eq_true, decide_eq_true_eq] at h4
  exact ⟨d, ws, k, r, g, b, h1, hm, hw, ⟨h4.1.1.1.1, h4.1.1.1.2, h4.1.1.2⟩, h4.1.2, h4.2.1, h4.2.2.1, h4.2.2.2⟩
end Mine
end
section
open PySem PySem.W PyProof.Rows PySem.Calls
open PyProof.Rows.LCg
set_option maxRecDepth 100000
namespace Mine
local macro_rules | `(tactic| k_mem) => `(tactic| first | assumption | (apply List.Mem.tail; k_mem))
local macro_rules | `(tactic| walk_at "call ref") => `(tactic| (k_here; refine Stop.mk ?_))
local macro_rules | `(tactic| walk_at "eval ListComp") => `(tactic| (k_here; refine Stop.mk ?_))
local macro_rules | `(tactic| walk_at "exec Assign cons ListComp") => `(tactic| (k_here; refine Stop.mk ?_))
local macro_rules | `(tactic| walk_at "pyIter ref") => `(tactic| (k_here; refine Stop.mk ?_))
local macro_rules | `(tactic| walk_at "CompEnd") => `(tactic| (refine Stop.mk ?_))
local macro_rules | `(tactic| walk_at "binaryOp Add ref ref") => `(tactic| (k_here; k_dflt (refine' cat_K ?k1 ?k2 ?k3 ?k4 ?k5 ?_; (case k1 => k_asm); (case k2 => k_asm); (case k3 => k_mem); (case k4 => k_mem); (case k5 => ((try simp only [List.length_drop, List.length_cons, List.length_nil]); omega)); k_whole); intro D' h' F' N' l1; (try k_lt l1); (try k_sweep)))
local macro_rules | `(tactic| walk_at "call builtin:len") => `(tactic| (k_here; (with_reducible show wpAny _ _ (call (Value.builtin "len") [Value.ref _]) _ _ _); first | (k_dflt (refine' len_lK ?k1 ?k2 ?k3 ?_; (case k1 => k_asm); (case k2 => k_mem)); (case k3 => (show _; omega)); k_whole; intro _) | refine Stop.mk ?_))
local macro_rules | `(tactic| walk_at "subscriptTail List cons Slice ref ref") => `(tactic| (k_here; refine Stop.mk ?_))
local macro_rules | `(tactic| walk_at "subscriptTail") => `(tactic| (k_here; (with_reducible show wpAny _ _ (subscriptTail _ _ (Value.ref _) (Value.int _ _)) _ _ _); k_dflt (refine' item_lK ?k1 ?k2 ?k3 ?k4 ?_ ?k5; (case k1 => k_asm); (case k2 => k_mem); (case k3 => decide); (case k4 => rfl); (case k5 => with_unfolding_all rfl); k_whole)))
local macro_rules | `(tactic| walk_at "subscriptTail Name Constant ref int") => `(tactic| (k_here; (with_reducible show wpAny _ _ (subscriptTail _ _ (Value.ref _) (Value.int _ _)) _ _ _); k_dflt (refine' item_lK ?k1 ?k2 ?k3 ?k4 ?_ ?k5; (case k1 => k_asm); (case k2 => k_mem); (case k3 => decide); (case k4 => rfl); (case k5 => with_unfolding_all rfl); k_whole)))
local macro_rules | `(tactic| walk_at "eval Name") => `(tactic| (k_here; (with_reducible show wpAny _ _ (eval (Expr.Name _ _) (compEnvC _ _ _ _)) _ _ _); k_dflt (refine' lcf_cell ?qN ?qc ?qm ?qd ?_ ?qa ?qb; (case qa => rfl); (case qb => rfl); (case qN => k_asm); (case qc => rfl); (case qm => k_mem); (case qd => k_asm); k_whole)))
local macro_rules | `(tactic| walk_at "exec For") => `(tactic| (k_here; k_dflt (refine For_J (by k_asm) (by rfl) (by rfl) ?_ (by with_unfolding_all passes_own))))
local macro_rules | `(tactic| walk_at "exec For Name Subscript cons nil") => `(tactic| (k_here; k_dflt (refine For_J (by k_asm) (by rfl) (by rfl) ?_ (by with_unfolding_all passes_own))))
local macro_rules | `(tactic| walk_at "exec For Name Call cons nil") => `(tactic| (k_here; k_dflt (refine For_J (by k_asm) (by rfl) (by rfl) ?_ (by with_unfolding_all passes_own))))
theorem three_at {c1 c2 c3 : Int} {t1 t2 t3 : Tok} {i : Nat} {v : Value} (hv : [Value.int c1 t1, .int c2 t2, .int c3 t3][i]? = some v) (h : (0 ≤ c1 ∧ c1 < 1000000) ∧ (0 ≤ c2 ∧ c2 < 1000000) ∧ (0 ≤ c3 ∧ c3 < 1000000)) :
    ∃ c t, v = .int c t ∧ 0 ≤ c ∧ c < 1000000 := by
  rcases i with _ | _ | _ | i
  · cases hv; exact ⟨_, _, rfl, h.1⟩
  · cases hv; exact ⟨_, _, rfl, h.2.1⟩
  · cases hv; exact ⟨_, _, rfl, h.2.2⟩
  · cases hv
local macro_rules | `(tactic| walk_at "subscriptTail Name Name ref int") => `(tactic| (k_here; refine Stop.mk ?_))
local macro_rules | `(tactic| walk_at "compareOp NotEq ref ref") => `(tactic| (k_here; refine Stop.mk ?_))
local macro_rules | `(tactic| walk_at "subscriptTail List Name ref int") => `(tactic| (k_here; refine Stop.mk ?_))
local macro_rules | `(tactic| walk_at "subscriptTail Name BinOp ref int") => `(tactic| (k_here; refine Stop.mk ?_))
local macro_rules | `(tactic| walk_at "call type:int") => `(tactic| (k_here; (with_reducible show wpAny _ _ (call _ [Value.float _ _]) _ _ _); refine intF_K rfl (by assumption) ?_))
theorem map_int {stored : List Str} {a : Str} {p q : Int} {t : Tok} {m m₀ : Str → Option Value} (e : p = q) (hv : m a = some (.int q t)) (h : ∀ y, stored.contains y = false → m y = m₀ y) :
    m = fun z => if z = a then some (.int p t) else mapD stored m m₀ z := by
  subst e
  exact map_one hv h
theorem sidesP_len {rows : List (List Int)} {n : Nat} : (sidesP rows n).length = n := by unfold sidesP; simp
theorem pow3_nat {n : Nat} : ((3 : Int) ^ n).toNat = 3 ^ n := by
  rw [show (3 : Int) ^ n = ((3 ^ n : Nat) : Int) by simp]; exact Int.toNat_natCast _
theorem pow3_rng {e : Int} {n : Nat} (he : e.toNat = n) (h : 3 ^ n < 1000000) : 0 ≤ (3 : Int) ^ e.toNat ∧ (3 : Int) ^ e.toNat < 1000000 := by
  rw [he, show (3 : Int) ^ n = ((3 ^ n : Nat) : Int) by simp]
  generalize 3 ^ n = q at *
  omega
local macro_rules | `(tactic| walk_at "call builtin:sorted") => `(tactic| (k_here; refine Stop.mk ?_))
local macro_rules | `(tactic| walk_at "call type:set cons nil") => `(tactic| (k_here; refine Stop.mk ?_))
local macro_rules | `(tactic| walk_at "compareOp Eq ref ref") => `(tactic| (k_here; refine Stop.mk ?_))
theorem eqints_T {prog : Program} {w : World} {A : Around} {E : Value → Shared → Prop} {s : Shared} {h₀ : Heap} {L : Addr} {news : Led} {l l' : Addr} {vs vs' : List Value} {ns : List Int} {k k' : Nat} {Q : Value → Shared → Prop} (N : News h₀ L s.heap news) (hl : (l, listOf vs.toArray k) ∈ news) (hl' : (l', listOf vs'.toArray k') ∈ news) (hi : IntsAre vs ns) (hj : IntsAre vs' ns) (hu : A.units + 64 < cLine) (h : Q (.bool true) s) :
    wpAny (model prog w) A (compareOp .Eq (.ref l) (.ref l')) Q E s := eqints_K N hl hl' hi hj hu (by rw [decide_eq_true rfl]; exact h)
theorem grown_tab {h₀ h : Heap} {L P : Addr} {li co : Nat} {q : Str} {A news : Led} (T : TabOk P li co q A) (N : News h₀ L h news) (hs : ∀ p ∈ A, p ∈ news) : GrownAt P h := by
  rcases T with rfl | ⟨c', oc, vs, t, rfl, _, _⟩
  · exact GrownAt.of N (hs _ (.head _))
  · exact GrownAt.of N (hs _ (.head _))
theorem grown_tabs {h₀ h : Heap} {L P P' a b : Addr} {Tb news : Led} (T : Tabs P P' Tb) (N : News h₀ L h news) (hs : ∀ p ∈ Tb, p ∈ news) : GrownAll [(a, P), (b, P')] h := by
  obtain ⟨A, B, rfl, hA, hB⟩ := T
  exact ⟨grown_tab hA N fun p hp => hs p (List.mem_append_left _ hp), grown_tab hB N fun p hp => hs p (List.mem_append_right _ hp), trivial⟩
set_option maxHeartbeats 8000000 in
theorem law03 : PySem.Challenge.rw_wf0044_03.Holds := by
  refine hd ?_
  k_fill
  intro w s₀ s₁ mg mb G Y fa o pm cd doc dV kV ho hd hcd hD hmg hg args vals as hpre hlay hrd hwl hlo
  have KX := km_in_of Y
  km_tabs Y
  have X := (Ground.X G).1
  have V := (Ground.X G).2
  refine Ground.open G ?_
  intro T B D TE TW
  try (refine guard_noD D (by decide +kernel) ?_; clear D)
  km_lay T hmg ho hd cd
  clear hmg
  wrow_args hpre hlay hrd hwl hlo
  refine enter_callX ?_
  w_top on
  refine kn_postX hT9 (fun _ _ => rfl) ?_
  have he := Dflts.none hD rfl; subst he; have he := Dflts.noKw hD; subst he
  refine call_cellsX (by decide) ho (fd_plain hd) (Top.nolimit T) hcd rfl (kinds_of (by kinds_ok)) (by decide) fun h₁ tk₁ cells F N0 X0 => ?_
  cells_open X0
  clear hd
  kn_ghosts F T
  k_drop
  clear G Y ho hcd hT8 X V T B TE TW hD X0
  rename Heap.IsList (ghostOf _ _) _ _ => hl0
  rename IntsAre _ _ => hI0
  refine wpX_execs_cons (wpX_of_any ?_)
  k_steps
  refine Stop.in ?_
  k_dflt (refine Assign_ListComp_W (by k_asm) (by rfl) (by rfl) (by rfl) (by decide) (by rfl) (by decide) (by rfl) (by rfl) (by rfl) ?_)
  k_steps
  refine Stop.in ?_
  rename IntsAre _ (List.take 4 _) => hI4
  rename (List.take 4 _).length = _ => hC4
  refine blk_list rfl (by k_asm) (by k_asm) (List.Mem.head _) (by rw [hI4.length, hC4]; omega) fun gh => ?_
  generalize hT4 : List.take 4 _ = d4 at *
  refine comp_ints (fun j => d4.getD j 0 % 1000000) ?_ ?_
  · intro j v ys I2 oI C oC D2 m₂ h2 tk2 E' hj hP hC hx2 F6 N6 off6 ne6
    obtain ⟨c, u, rfl, hdc⟩ := IntsAre.at hI4 j v hP
    have hg := hdc
    k_steps
    refine Stop.in ?_
    refine CompEnd.fin0 (by assumption) (by assumption) off6 (List.Mem.head _) ?_
    rw [List.getD_eq_getElem?_getD, hdc, Int.fmod_eq_emod_of_nonneg _ (by decide)]
    rfl
  · intro ys hys
    unfold FinA
    intro D3 h3 tk3 F3 N3 o3
    replace o3 := off1_of o3
    have n1 : @Ne Nat D3 _ := Ne.symm (o3 _ (.head _))
    have n2 : @Ne Nat D3 _ := Ne.symm (o3 _ (.tail _ (.head _)))
    have n3 : @Ne Nat D3 _ := Ne.symm (o3 _ (.tail _ (.tail _ (.head _))))
    have n4 : @Ne Nat D3 _ := Ne.symm (o3 _ (.tail _ (.tail _ (.tail _ (.head _)))))
    rw [hI4.length, range_getD (g := fun c => c % 1000000)] at hys
    dsimp only
    refine wpX_execs_cons (wpX_of_any ?_)
    have hyl : ys.length ≤ 4 := by rw [hys.length, List.length_map]; omega
    k_steps
    refine Stop.in ?_
    k_dflt (refine' slice_tmpK (a := ys.length) ?k1 ?k2 ?k3 ?k4 ?k5 ?_ ?k6; (case k1 => k_asm); (case k2 => k_asm); (case k3 => exact List.Mem.head _); (case k4 => exact hyl); (case k5 => exact Nat.le_of_ble_eq_true rfl); (case k6 => with_unfolding_all rfl); k_whole)
    intro D5 h5 F5 N5 l5
    (try k_lt l5)
    k_steps
    dsimp only
    rename Fr _ _ _ _ => FA
    rename News _ _ _ _ => NA
    rename Obj.data _ = Data.cell (some (Value.ref _)) => hcell
    obtain ⟨c0, c1, c2, c3, t0, t1, t2, t3, hcs, r0, r1, r2, r3⟩ := cells_four (q0 := 2) (q1 := 4) (q2 := 13) (q3 := 25) (ta := _) (tb := _) (tc := _) (td := _) hys hyl (by decide)
    rw [hcs] at NA
    clear hcs hys
    refine name_cells NA fun Dc Lc hDc hLc NB => ?_
    clear NA
    subst hLc hDc
    have hcc : (Dc, listOf #[Value.int c0 t0, Value.int c1 t1, Value.int c2 t2, Value.int c3 t3] 0) ∈ [(Dc, listOf #[Value.int c0 t0, Value.int c1 t1, Value.int c2 t2, Value.int c3 t3] 0)] := List.Mem.head _
    refine wpX_execs_cons (wpX_of_any ?_)
    k_steps
    refine Stop.in ?_
    k_dflt (refine Assign_ListComp_W (by k_asm) (by rfl) (by rfl) (by with_unfolding_all rfl) (by decide) (by rfl) (by decide) (by rfl) (by rfl) (by rfl) ?_)
    k_steps
    refine Stop.in ?_
    refine blk_range (n := 3) rfl (by k_asm) (by k_asm) (by assumption) (by decide) (by decide) (by decide) fun gh => ?_
    refine comp_ints (fun j => 1 + c0 / 2 ^ j % 2) ?_ ?_
    · intro j v ys I2 oI C oC D2 m₂ h2 tk2 E' hj hP hC hx2 F6 N6 off6 ne6
      obtain ⟨tj, rfl⟩ := hP
      have hj2 : 0 ≤ 0 + (j : Int) ∧ 0 + (j : Int) ≤ 2 := by omega
      k_steps
      refine Stop.in ?_
      refine CompEnd.fin0 (by assumption) (by assumption) off6 trivial ?_
      rw [Int.fmod_eq_emod_of_nonneg _ (by decide), Int.fdiv_eq_ediv_of_nonneg _ (Int.pow_nonneg (by decide)), show (0 + (j : Int)).toNat = j from by omega]
    · intro ys hys
      unfold FinA
      intro Ds h3 tk3 F3 N3 o3
      replace o3 := off1_of o3
      dsimp only
      refine wpX_execs_cons (wpX_of_any ?_)
      k_steps
      dsimp only
      rename Fr _ _ _ _ => FB
      rename News _ _ _ _ => NB2
      obtain ⟨sa, hsa⟩ : ∃ sa, sa = 1 + c0 / 2 ^ 0 % 2 := ⟨_, rfl⟩
      obtain ⟨sb, hsb⟩ : ∃ sb, sb = 1 + c0 / 2 ^ 1 % 2 := ⟨_, rfl⟩
      obtain ⟨sc, hsc⟩ : ∃ sc, sc = 1 + c0 / 2 ^ 2 % 2 := ⟨_, rfl⟩
      have hys2 : IntsAre ys [sa, sb, sc] := by rw [hsa, hsb, hsc]; exact hys
      have hsr : ∀ s ∈ [sa, sb, sc], 1 ≤ s ∧ s ≤ 2 := by
        intro s hs
        simp only [List.mem_cons, List.not_mem_nil, or_false] at hs
        omega
      have hsig : ∀ s ∈ [sa, sb, sc], s = 1 ∨ s = 2 := fun s hs => by have := hsr s hs; omega
      clear hys
      have hf : (c0.fdiv 8).fmod 3 = c0 / 8 % 3 := by rw [Int.fmod_eq_emod_of_nonneg _ (by decide), Int.fdiv_eq_ediv_of_nonneg _ (by decide)]
      have hn : 6 + (c0.fdiv 24).fmod 8 = 6 + c0 / 24 % 8 := by rw [Int.fmod_eq_emod_of_nonneg _ (by decide), Int.fdiv_eq_ediv_of_nonneg _ (by decide)]
      have hfr : 0 ≤ (c0.fdiv 8).fmod 3 ∧ (c0.fdiv 8).fmod 3 < 3 := by omega
      have hnr : 6 ≤ 6 + (c0.fdiv 24).fmod 8 ∧ 6 + (c0.fdiv 24).fmod 8 < 14 := by omega
      have NC := news_tail NB2
      clear NB2
      refine name_signs NC fun W hW NW mS mCell mC mT => ?_
      clear NC
      obtain ⟨Tb, hTb⟩ : ∃ Tb : Led, Tb = [(51, tabObj #[]), (44, tabObj #[])] := ⟨_, rfl⟩
      have hTabs : Tabs 51 44 Tb := by rw [hTb]; exact tabs_start
      rw [← hTb] at mT
      refine wpX_execs_cons (wpX_Assign_Name (wpX_Call ?_))
      k_steps
      refine callWithX_K (K := Mine.hd.heap_39 w.params) ?_ ?_
      · k_dflt k_is
      k_steps
      k_dflt (refine' specX_use (creases_spec w _ _ mg mb W Ds ys.length ys sa sb sc mS hys2 hsr) ?k1 ?k2 ?k3 ?k4 ?k5 ?kK ?kd ?ku ?_; (case k1 => k_asm); (case k2 => k_asm); (case k3 => k_asm); (case k4 => k_asm); (case k5 => k_asm); (case kK => exact rfl))
      case kd => ktr_room
      case ku => ktr_units
      rintro rv new h4 tk4 F4 N4 l4 ⟨b, t4, rfl, hb, rfl⟩
      dsimp only at F4 N4
      have hbl : b.size = 26 := by
        rw [bInts_size hb]
        rfl
      have hbr : ∀ c ∈ PySem.W.KBw.bInts b, c ≤ 3 := fun c hc => by
        have := rowAt_rng (hsr _ (.head _)) (fun s h => hsr s (.tail _ h)) 2 c (hb ▸ hc)
        omega
      k_steps
      refine wpX_execs_cons (wpX_If (wpX_isTrue_or (wpX_of_any ?_)))
      k_steps
      first | (· exfalso; omega) | skip
      refine wpX_isTrue_or (wpX_isTrue_Compare1 (wpX_Call ?_))
      k_steps
      refine callWithX_K (K := Mine.hd.heap_39 w.params) ?_ ?_
      · k_dflt k_is
      k_steps
      k_dflt (refine' specX_use (exch_spec w _ _ mg mb _ b _ ⟨by omega, by omega⟩ hbr) ?k1 ?k2 ?k3 ?k4 ?k5 ?kK ?kd ?ku ?_; (case k1 => k_asm); (case k2 => k_asm); (case k3 => k_asm); (case k4 => k_asm); (case k5 => k_asm); (case kK => exact rfl))
      case kd => ktr_room
      case ku => ktr_units
      rintro rv new h5 tk5 F5 N5 l5 ⟨b', t5, rfl, hb', rfl⟩
      (try dsimp only at F5 N5)
      have hbb : b' = b := bInts_inj (by rw [hb', hb, row_same hsr])
      subst hbb
      k_steps
      first | (· first | exact absurd rfl (by assumption) | (exfalso; simp at * ; done)) | skip
      refine wpX_of_any ?_
      k_steps
      refine wpX_of_any ?_
      k_steps
      dsimp only
      refine wpX_of_any ?_
      have hb3 : ∀ c ∈ PySem.W.KBw.bInts b', 0 ≤ c ∧ c ≤ 2 := fun c hc => by
        have := rowAt_rng (hsr _ (.head _)) (fun s h => hsr s (.tail _ h)) 2 c (hb ▸ hc)
        omega
      k_steps
      refine Stop.in ?_
      k_dflt (refine' specT_use (steps_spec w _ _ mg mb W b' _ _ _ hbl hb3 hfr) ?k1 ?k2 ?k3 ?k4 ?k5 ?kK ?ks ?kd ?ku ?_; (case k1 => k_asm); (case k2 => k_asm); (case k3 => k_asm); (case k4 => k_asm); (case k5 => k_asm); (case kK => exact rfl); (case ks => (intro p hp; exact hp)))
      case kd => ktr_room
      case ku => ktr_units
      rintro rv T6 h6 tk6 F6 N6 ⟨D6, vs6, k6, W6, rfl, rfl, rows6, sub6, ne6⟩
      (try dsimp only at F6 N6)
      have hks3 : (0 :: PySem.W.KBw.bInts b') = ks3 sa sb sc := by rw [hb]; rfl
      rw [hks3, rows_at (by rw [← hks3]; intro c hc; rcases List.mem_cons.mp hc with rfl | hc; · omega
                            · exact hb3 c hc) hfr] at rows6
      have rl6 := rows6.length
      k_steps
      refine Stop.in ?_
      k_dflt (refine' specT_use (lights_spec w _ _ mg mb ((D6, listOf (List.toArray vs6) k6) :: W6) D6 k6 27 vs6 _ (List.Mem.head _) (rows6.mono fun _ h => .tail _ h) rowsT_three ⟨rowsT_len, by omega⟩) ?k1 ?k2 ?k3 ?k4 ?k5 ?kK ?ks ?kd ?ku ?_; (case k1 => k_asm); (case k2 => k_asm); (case k3 => k_asm); (case k4 => k_asm); (case k5 => k_asm); (case kK => exact rfl); (case ks => (intro p hp; exact hp)))
      case kd => ktr_room
      case ku => ktr_units
      rintro rv7 T7 h7 tk7 F7 N7 ⟨D7, vs7, k7, W7, rfl, rfl, rows7, sub7, ne7⟩
      (try dsimp only at F7 N7)
      have mC7 := sub7 _ (.tail _ (sub6 _ mC))
      have mS7 := sub7 _ (.tail _ (sub6 _ mS))
      have mCell7 := sub7 _ (.tail _ (sub6 _ mCell))
      have mT7 : ∀ p ∈ Tb, p ∈ W7 := fun p hp => sub7 _ (.tail _ (sub6 _ (mT p hp)))
      have m67 := sub7 _ (.head _)
      k_steps
      refine Stop.in ?_
      (rename News _ _ _ _ => N8)
      (rename Fr _ _ _ _ => F8)
      refine with_fr F8 fun m8 hm8 F80 => ?_
      refine name1 N8 fun Dl hDl => ?_
      subst hDl
      obtain ⟨RS, cS, sS, rS⟩ := rows6.slim
      obtain ⟨RL, cL, sL, rL⟩ := rows7.slim
      obtain ⟨R, hR⟩ : ∃ R : Led, R = (Dl, listOf (List.toArray [Value.int c1 t1, Value.int c2 t2, Value.int c3 t3]) 0) :: (Ds, listOf ys.toArray ys.length) :: (D6, listOf (List.toArray vs6) k6) :: (D7, listOf (List.toArray vs7) k7) :: (RS ++ RL) := ⟨_, rfl⟩
      have cR : Cl R := by rw [hR]; exact Cl.cons (by simp) (Cl.cons (by simp) (Cl.cons (by simp) (Cl.cons (by simp) (cS.append cL))))
      have m1 : (Dl, listOf (List.toArray [Value.int c1 t1, Value.int c2 t2, Value.int c3 t3]) 0) ∈ R := by rw [hR]; exact .head _
      have m2 : (Ds, listOf ys.toArray ys.length) ∈ R := by rw [hR]; exact .tail _ (.head _)
      have m3 : (D6, listOf (List.toArray vs6) k6) ∈ R := by rw [hR]; exact .tail _ (.tail _ (.head _))
      have m4 : (D7, listOf (List.toArray vs7) k7) ∈ R := by rw [hR]; exact .tail _ (.tail _ (.tail _ (.head _)))
      have qS : RowsIn R vs6 _ := rS.mono fun p hp => by rw [hR]; exact .tail _ (.tail _ (.tail _ (.tail _ (List.mem_append_left _ hp))))
      have qL : RowsIn R vs7 _ := rL.mono fun p hp => by rw [hR]; exact .tail _ (.tail _ (.tail _ (.tail _ (List.mem_append_right _ hp))))
      have N9 : News _ _ _ (R ++ Tb) := news_sub N8 (fun p hp => by
        rcases List.mem_append.mp hp with hp | hp
        · rw [hR] at hp
          rcases List.mem_cons.mp hp with rfl | hp
          · exact .head _
          rcases List.mem_cons.mp hp with rfl | hp
          · exact .tail _ (.tail _ mS7)
          rcases List.mem_cons.mp hp with rfl | hp
          · exact .tail _ (.tail _ m67)
          rcases List.mem_cons.mp hp with rfl | hp
          · exact .tail _ (.head _)
          rcases List.mem_append.mp hp with hp | hp
          · exact .tail _ (.tail _ (sub7 _ (.tail _ (sS p hp))))
          · exact .tail _ (.tail _ (sL p hp))
        · exact .tail _ (.tail _ (mT7 p hp)))
      clear N8
      refine iter_listN (J := fun i m led => ∃ u Tb', m = mapD [Str.ofString "cell", Str.ofString "number", Str.ofString "light", Str.ofString "step"] u m8 ∧ led = R ++ Tb' ∧ Tabs 51 44 Tb')
        rfl (List.mem_append_left _ m1) ?_ F80 N9 ?_ ?_ ?_
      · rintro i m led ⟨u, Tb', rfl, rfl, _⟩
        exact List.mem_append_left _ m1
      · exact ⟨_, Tb, mapD_self, rfl, hTabs⟩
      · subst hm8
        rintro I i v m1' led h tk it hv ⟨u, Tb', rfl, rfl, hT'⟩ hoI _ hic FT NT
        obtain ⟨c, tc, rfl, hc0, hc1⟩ := three_at hv ⟨r1, r2, r3⟩
        have hxr : 0 ≤ c.fmod 27 ∧ c.fmod 27 < 27 := by
          rw [Int.fmod_eq_emod_of_nonneg _ (by decide)]; omega
        k_steps
        refine Stop.in ?_
        k_dflt (refine' specT_use (bydiv_spec w _ _ mg mb ((I, it) :: R) Tb' hT' (Cl.cons (iterN hic) cR) (c.fmod 27) _ _ Ds _ ys _ _ _ sa sb sc (.tail _ m2) hys2 hsig hxr hnr hfr) ?k1 ?k2 ?k3 ?k4 ?k5 ?kK ?ks ?kd ?ku ?_; (case k1 => k_asm); (case k2 => k_asm); (case k3 => k_asm); (case k4 => k_asm); (case k5 => k_asm); (case kK => exact rfl); (case ks => exact fun _ h => h))
        case kd => ktr_room
        case ku => ktr_units
        rintro rv10 T10 h10 tk10 F10 N10 ⟨Dt, Da, Db, va, vb, ka, kb, Tb', rfl, rfl, hva, hvb, hTb'⟩
        dsimp only at F10 N10
        obtain ⟨⟨dl, wl, kl, hl1, hl2, hl3⟩, ds, ws, ks, hs1, hs2, hs3⟩ := turn_facts qL qS hsr hfr hnr hxr
        have md : (dl, listOf wl.toArray kl) ∈ (I, it) :: R := .tail _ hl2
        have ms : (ds, listOf ws.toArray ks) ∈ (I, it) :: R := .tail _ hs2
        k_steps
        refine Stop.in ?_
        refine item_lK (by k_asm) (k := k7) (vs := vs7) (.tail _ (.tail _ (.tail _ (List.mem_append_left _ (.tail _ m4))))) ⟨hxr.1, by omega⟩ hl1 ?_
        k_steps
        refine Stop.in ?_
        refine neints_K (by k_asm) (.tail _ (.tail _ (.head _))) (.tail _ (.tail _ (.tail _ (List.mem_append_left _ md)))) hva hl3 (by ke_room) ?_
        rw [decide_eq_true rfl]
        k_steps
        refine Stop.in ?_
        refine item_lK (by k_asm) (k := k6) (vs := vs6) (.tail _ (.tail _ (.tail _ (List.mem_append_left _ (.tail _ m3))))) ⟨hxr.1, by omega⟩ hs1 ?_
        k_steps
        refine Stop.in ?_
        refine neints_K (by k_asm) (.tail _ (.head _)) (.tail _ (.tail _ (.tail _ (List.mem_append_left _ ms)))) hvb hs3 (by ke_room) ?_
        rw [decide_eq_true rfl]
        k_steps
        rename Fr _ _ _ _ => FZ
        rename News _ _ _ _ => NZ
        have h10i : ∀ p ∈ Tb', p.1 ≠ I := tabs_neN hTb' NZ (fun p hp => .tail _ (.tail _ (.tail _ (List.mem_append_right _ hp)))) (.tail _ (.tail _ (.tail _ (List.mem_append_left _ (.head _))))) (iterN hic) hic.2
        refine TurnJ.fin FZ NZ (R ++ Tb') ?_ ?_ ⟨_, Tb', mapD_of (by repeat (first | exact map_base | refine map_peel (by decide) ?_)), rfl, hTb'⟩
        · intro q hq
          exact .tail _ (.tail _ (.tail _ hq))
        · intro p hp
          rcases List.mem_append.mp hp with hp | hp
          · exact hoI p (List.mem_append_left _ hp)
          · exact h10i p hp
      · subst hm8
        rintro m1' led h tk ⟨u, Tb', rfl, rfl, hT'⟩ FT NT
        k_steps
        refine Stop.in ?_
        (rename Fr _ _ _ _ => F11)
        (rename News _ _ _ _ => N11)
        refine with_fr F11 fun m9 hm9 F110 => ?_
        refine iter_rangeJ (n := 3) (J := fun i m led => ∃ u tt, m = (fun z => if z = Str.ofString "twelfths" then some (.int (twelfth ((c0.fdiv 8).fmod 3) [sa, sb, sc] i) tt) else mapD [Str.ofString "fold", Str.ofString "twelfths", Str.ofString "hue", Str.ofString "spread"] u m9 z) ∧ led = R ++ Tb')
          rfl (by assumption) (by decide) (by decide) F110 N11 ?_ ?_ ?_
        · subst hm9
          exact ⟨_, _, map_one rfl map_self, rfl⟩
        · subst hm9
          rintro I i t' m12 led h12 tk12 it hi3 ⟨u, tt, rfl, rfl⟩ hoI _ hic FT NT
          obtain ⟨dl, wl, kl, r, g, b, e1, e2, e3, ⟨er, eg, eb⟩, e4, e5, e6, e7⟩ := fold_at qL hsr hfr hi3
          obtain ⟨si, hsi⟩ : ∃ si, [sa, sb, sc][i]? = some si := ⟨_, List.getElem?_eq_getElem (by simpa using hi3)⟩
          obtain ⟨ti, hyi⟩ := hys2.get i si hsi
          have e0 : (0 + (i : Int) * 1).toNat = i := by omega
          have e00 : (0 + (i : Int) * 1 + 1).toNat = i + 1 := by omega
          have hfo : 0 ≤ 0 + (i : Int) * 1 + 1 ∧ 0 + (i : Int) * 1 + 1 ≤ 3 := by omega
          have ep : 3 ^ (i + 1) < 1000000 := by
            have : i = 0 ∨ i = 1 ∨ i = 2 := by omega
            rcases this with rfl | rfl | rfl <;> decide
          unfold twF at e5 e6
          k_steps
          refine Stop.in ?_
          refine item_lK (by k_asm) (k := ys.length) (vs := ys) (.tail _ (List.mem_append_left _ m2)) ⟨by omega, by omega⟩ (by rw [e0]; exact hyi) ?_
          k_steps
          refine Stop.in ?_
          refine item_lK (by k_asm) (k := k7) (vs := vs7) (.tail _ (List.mem_append_left _ m4)) (pow3_rng e00 ep) (by rw [e00, pow3_nat]; exact e1) ?_
          k_steps
          refine Stop.in ?_
          k_dflt (refine' specT_use (told_spec w _ _ mg mb ((I, it) :: (R ++ Tb')) dl kl wl r g b (.tail _ (List.mem_append_left _ e2)) e3 er eg eb e4) ?k1 ?k2 ?k3 ?k4 ?k5 ?kK ?ks ?kd ?ku ?_; (case k1 => k_asm); (case k2 => k_asm); (case k3 => k_asm); (case k4 => k_asm); (case k5 => k_asm); (case kK => exact rfl); (case ks => exact fun _ h => h))
          case kd => ktr_room
          case ku => ktr_units
          rintro rv13 T13 h13 tk13 F13 N13 ⟨D13, u1, u2, rfl, rfl, o13⟩
          (try dsimp only at F13 N13)
          have etw : (fint (Float64.add (Float64.mul 4622945017495814144 (rgbH r g b)) 4602678819172646912)).fmod 12 = (twelfth ((c0.fdiv 8).fmod 3) [sa, sb, sc] i + 3 - 2 * si).fmod 12 := by
            rw [Int.fmod_eq_emod_of_nonneg _ (by decide), Int.fmod_eq_emod_of_nonneg _ (by decide), e6, twelfth_succ hsi]
          k_steps
          first | (· exfalso; omega) | skip
          · exfalso
            have hneq : fint (toldF r g b) ≠ [2, 3, 6].getD (0 + (i : Int) * 1).toNat 0 := by with_reducible assumption
            refine hneq ?_
            rw [e0, List.getD_eq_getElem?_getD, ← e7]
            rfl
          rename Fr _ _ _ _ => FZ
          rename News _ _ _ _ => NZ
          refine TurnJ.fin FZ NZ (R ++ Tb') (fun q hq => .tail _ (.tail _ hq)) hoI ⟨_, _, map_int (twelfth_succ hsi) rfl (by repeat (first | exact map_base | refine map_peel (by decide) ?_)), rfl⟩
        · subst hm9
          rintro m12 led h12 tk12 ⟨u, tt, rfl, rfl⟩ FT NT
          k_steps
          refine Stop.in ?_
          k_dflt (refine' specT_use (sides_spec w _ _ mg mb (R ++ Tb') D7 k7 27 vs7 (lights3 sa sb sc ((c0.fdiv 8).fmod 3)) (List.mem_append_left _ m4) (RowsIn.mono qL fun _ h => List.mem_append_left _ h) (lightsP_three rowsT_three) ⟨lightsP_len, by omega⟩ (sides_at hsr hfr)) ?k1 ?k2 ?k3 ?k4 ?k5 ?kK ?ks ?kd ?ku ?_; (case k1 => k_asm); (case k2 => k_asm); (case k3 => k_asm); (case k4 => k_asm); (case k5 => k_asm); (case kK => exact rfl); (case ks => exact fun _ h => h))
          case kd => ktr_room
          case ku => ktr_units
          rintro rv14 T14 h14 tk14 F14 N14 ⟨D14, ws14, k14, rfl, rfl, o14, hws14⟩
          (try dsimp only at F14 N14)
          replace hws14 : ∃ S : List Int, IntsAre ws14 S ∧ S.Nodup ∧ (S.filter fun x => decide (x < 600)).Perm (nearP 5) ∧ S.length = 27 := ⟨_, hws14, (sides_good hsr hfr).1, (sides_good hsr hfr).2, sidesP_len⟩
          obtain ⟨S, hws14, nd, pm, sl⟩ := hws14
          k_steps
          refine Stop.in ?_
          k_dflt (refine' sorted_K (l := D14) (vs := ws14) (k := k14) ?k1 ?k2 (List.Mem.head _) hws14 (Nat.lt_of_le_of_lt (Nat.le_of_eq sl) (by decide)) ?_; (case k1 => k_asm); (case k2 => k_asm))
          intro D15 vs15 ns15 k15 h15 F15 N15 l15 hi15 pm15 o15
          have nd15 := pm15.nodup_iff.mpr nd
          have sl15 : ns15.length = 27 := by rw [pm15.length_eq, sl]
          k_steps
          refine Stop.in ?_
          k_dflt (refine' setlen_K (l := D15) (vs := vs15) (k := k15) ?k1 ?k2 rfl (List.Mem.head _) hi15 nd15 (Nat.lt_of_le_of_lt (Nat.le_of_eq sl15) (by decide)) ?_; (case k1 => k_asm); (case k2 => k_asm))
          intro D16 h16 tk16 o16 F16 N16 l16 hso16
          k_steps
          refine Stop.in ?_
          refine lenset_K N16 hso16 (by rw [sl15]; decide) ?_
          rw [sl15]
          k_steps
          refine Stop.in ?_
          k_dflt (refine LCt.ListComp_T (by k_asm) (by with_unfolding_all rfl) (by decide) (by rfl) (by decide) (by rfl) ?_)
          k_steps
          rename Fr _ _ _ _ => F18
          rename News _ _ _ _ => N18
          have hsz18 : vs15.toArray.size ≤ sizeLine := by rw [List.size_toArray, hi15.length, sl15, sizeLine_eq]; decide
          refine LCt.CompSrcT.ledger (its := vs15.toArray) (k := k15) rfl F18 N18 (.tail _ (.head _)) hsz18 fun g => ?_
          refine comp_filt (fun x => decide (x < 600)) hi15 ?_ ?_
          · intro c t ysF IF oIF CF oCF DF m₂ hF tkF E' hcF hCF hxF FF NF offF neF
            k_steps
            · refine Stop.in ?_
              exact CompEnd.fin FF NF _ (fun _ h => h) offF (.inr ⟨_, .tail _ (.head _), rfl, _, rfl⟩) ⟨rfl, _, rfl⟩
            · refine Stop.in ?_
              exact CompEnd.fin FF NF _ (fun _ h => h) offF (.inr ⟨_, .tail _ (.head _), rfl, _, rfl⟩) rfl
          · intro ysF hysF
            unfold FinE
            intro D17 h17 tk17 F17 N17 o17
            replace o17 := off1_of o17
            dsimp only
            k_steps
            refine Stop.in ?_
            have hsub20 : ∀ p ∈ (D17, lst ysF) :: (R ++ Tb'), p ∈ (D17, lst ysF) :: (D16, o16) :: (D15, PySem.W.listOf vs15.toArray k15) :: (D14, PySem.W.listOf ws14.toArray k14) :: (R ++ Tb') := fun p hp => by
              rcases List.mem_cons.mp hp with rfl | hp
              · exact .head _
              · exact .tail _ (.tail _ (.tail _ (.tail _ hp)))
            k_dflt (refine' specT_use (near_spec w _ _ mg mb ((D17, lst ysF) :: (R ++ Tb'))) ?k1 ?k2 ?k3 ?k4 ?k5 ?kK ?ks ?kd ?ku ?_; (case k1 => k_asm); (case k2 => k_asm); (case k3 => k_asm); (case k4 => k_asm); (case k5 => k_asm); (case kK => exact rfl); (case ks => exact hsub20))
            case kd => ktr_room
            case ku => ktr_units
            rintro rv20 T20 h20 tk20 F20 N20 ⟨D20, ws20, k20, rfl, rfl, o20, hi20⟩
            (try dsimp only at F20 N20)
            have heqn : ns15.filter (fun x => decide (x < 600)) = nearP 5 := rising_perm ((pm15.filter (fun x => decide (x < 600))).trans pm) (o15.filter (fun x => decide (x < 600))) near_rising
            replace hysF : IntsAre ysF (nearP 5) := by rw [← heqn]; exact hysF
            have hgr : GrownAll [(55, 51), (48, 44)] h20 := grown_tabs hT' N20 fun p hp => .tail _ (.tail _ (List.mem_append_right _ hp))
            k_steps
            refine Stop.in ?_
            refine eqints_T (k := ysF.length) (k' := k20) (vs := ysF) (vs' := ws20) (ns := nearP 5) N20 (.tail _ (.head _)) (.head _) hysF hi20 (by ke_room) ?_
            refine And.intro ?_ hgr
            k_steps
end Mine
end
open PySem PySem.W PyProof.Rows
theorem PySem.Challenge.cw_wf0044_03_holds : PySem.Challenge.rw_wf0044_03.Holds := by
  exact Mine.law03
