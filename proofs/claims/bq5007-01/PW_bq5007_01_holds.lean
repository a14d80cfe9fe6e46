import PyProof.Rows.All
import Wide.All
import OpenK.AllK
import Wide.FinOn
import PyProof.StrLawsRepr
import KE.KNestM
import PyProof.FactsAll.object_1
import PyProof.AttrMissHeap
import PyProof.GenQ
import KE.KNest
import KE.KDictOf
import Lean
import PySem.Challenge.RW_bq5007_01
set_option Elab.async false
set_option pp.deepTerms false
set_option pp.deepTerms.threshold 6
set_option pp.proofs false

section PartC0
open PySem PySem.W PyProof.Rows PySem.Calls PySem.Spec
set_option linter.all false
namespace Mine
open Sem (wp)
def HasC (l : List (Code × Pos)) : Prop := l.any (fun x => x.1.isCaller) = true
def Under (Γ : PySem.Ctx) : Prop := Γ.code.isCaller = true ∨ HasC Γ.below
theorem Under.enter {Γ : PySem.Ctx} (h : Under Γ) (c : Code) (hd : Option Value) (p : Pos) : HasC (Γ.enter c hd p).below := by
  show ((Γ.code, p) :: Γ.below).any _ = true
  rw [List.any_cons]
  rcases h with h | h
  · simp [h]
  · have : Γ.below.any (fun x => x.1.isCaller) = true := h
    simp [this]
theorem Under.stack {Γ : PySem.Ctx} (h : Under Γ) (p : Pos) : (((Γ.code, p) :: Γ.below).map (·.1)).any Code.isCaller = true := by
  rw [List.map_cons, List.any_cons, List.any_map]
  rcases h with h | h
  · simp [h]
  · have : Γ.below.any (fun x => x.1.isCaller) = true := h
    simp only [Bool.or_eq_true]
    exact .inr this
def wpC {α : Type} (M : Model) (A : Around) (t : Sem α) (Q : α → Shared → Prop) (E : Value → Shared → Prop) (s : Shared) : Prop :=
  ∀ Γ p, Γ.In A → Under Γ → wp M Γ t (fun a _ s' => Q a s') (fun e _ s' => E e s') p s
def codeC (M : Model) (A : Around) (c : Code) (R : Result → Shared → Prop) (s : Shared) : Prop :=
  ∀ Γ p, Γ.code = c → Γ.Below A → HasC Γ.below → wpCode M Γ R p s
section
variable {α β : Type} {M : Model} {A : Around} {E : Value → Shared → Prop} {s : Shared}
theorem wpC_of {t : Sem α} {Q : α → Shared → Prop} (h : wpAny M A t Q E s) : wpC M A t Q E s := fun Γ p hΓ _ => h Γ p hΓ
theorem codeC_of {c : Code} {R : Result → Shared → Prop} (h : codeAny M A c R s) : codeC M A c R s := fun Γ p hc hΓ _ => h Γ p hc hΓ
theorem wpC_pure {a : α} {Q : α → Shared → Prop} (h : Q a s) : wpC M A (pure a) Q E s := fun _ _ _ _ => h
theorem wpC_mono {t : Sem α} {Q Q' : α → Shared → Prop} {E' : Value → Shared → Prop} (h : wpC M A t Q E s)
    (hQ : ∀ a s, Q a s → Q' a s) (hE : ∀ e s, E e s → E' e s) : wpC M A t Q' E' s :=
  fun Γ p hΓ hU => Sem.wp_mono M Γ t (fun a _ s => hQ a s) (fun e _ s => hE e s) p s (h Γ p hΓ hU)
theorem wpC_bind {m : Sem α} {f : α → Sem β} {Q : β → Shared → Prop} (h : wpC M A m (fun a s' => wpC M A (f a) Q E s') E s) :
    wpC M A (m >>= f) Q E s := fun Γ p hΓ hU => by
  rw [Sem.wp_bind']
  exact Sem.wp_mono M Γ m (fun a p' s' h' => h' Γ p' hΓ hU) (fun _ _ _ h' => h') p s (h Γ p hΓ hU)
theorem wpC_cut {m : Sem α} {f : α → Sem β} {Q : β → Shared → Prop} (h : wpAny M A m (fun a s' => wpC M A (f a) Q E s') E s) :
    wpC M A (m >>= f) Q E s := wpC_bind (wpC_of h)
theorem wpC_tryCatch {m : Sem α} {k : Value → Sem α} {Q : α → Shared → Prop} (h : wpC M A m Q (fun e s' => wpC M A (k e) Q E s') s) :
    wpC M A (tryCatch m k) Q E s := fun Γ p hΓ hU => by
  rw [Sem.wp_tryCatch']
  exact Sem.wp_mono M Γ m (fun _ _ _ h' => h') (fun e p' s' h' => h' Γ p' hΓ hU) p s (h Γ p hΓ hU)
theorem wpC_onRaise {m : Sem α} {k : Value → Sem Unit} {Q : α → Shared → Prop}
    (h : wpC M A m Q (fun e s' => wpC M A (k e) (fun _ s'' => E e s'') E s') s) : wpC M A (m.onRaise k) Q E s := fun Γ p hΓ hU => by
  rw [Sem.wp_onRaise]
  exact Sem.wp_mono M Γ m (fun _ _ _ h' => h') (fun e p' s' h' => h' Γ p' hΓ hU) p s (h Γ p hΓ hU)
theorem wpC_attempt {m : Sem α} {Q : Except Value α → Shared → Prop} (h : wpC M A m (fun a => Q (.ok a)) (fun e => Q (.error e)) s) :
    wpC M A m.attempt Q E s := fun Γ p hΓ hU => by rw [Sem.wp_attempt]; exact h Γ p hΓ hU
theorem wpC_holding {vs : List Value} {m : Sem α} {Q : α → Shared → Prop} (h : wpC M A m Q E s) : wpC M A (holding vs m) Q E s :=
  fun Γ p hΓ hU => by rw [Sem.wp_holding]; exact h Γ p hΓ hU
theorem wpC_standAt {pos : Pos} {Q : Unit → Shared → Prop} (h : Q () s) : wpC M A (standAt pos) Q E s := fun _ _ _ _ => h
theorem wpC_point {Q : Unit → Shared → Prop} (h : Q () s) : wpC M A point Q E s := fun _ _ _ _ => h
theorem wpC_operate {vs : List Value} {m : Sem Value} {Q : Value → Shared → Prop} (h : wpC M A m Q E s) : wpC M A (operate vs m) Q E s :=
  fun Γ p hΓ hU => by rw [Sem.wp_operate]; exact h Γ p hΓ hU
theorem codeC_mono {c : Code} {R R' : Result → Shared → Prop} (h : codeC M A c R s) (hR : ∀ r s, R r s → R' r s) : codeC M A c R' s :=
  fun Γ p hc hΓ hU => wpCode_mono hR (h Γ p hc hΓ hU)
theorem wpC_run {c : Code} {h : Option Value} {Q : Flow → Shared → Prop}
    (hc : codeC M (A.mark h) c (fun r s' => match r with | .ok f => Q f s' | .error e => E e s') s) (hnb : h ≠ some byPass := by intro x; cases x) :
    wpC M A (run c h) Q E s :=
  fun Γ p hΓ hU => by rw [Sem.wp_run]; exact hc _ p rfl (hΓ.enter c h p hnb) (hU.enter c h p)
theorem wpC_runValue {c : Code} {Q : Value → Shared → Prop}
    (hc : codeC M A c (fun r s' => match r with | .ok (.ret v) => Q v s' | .ok _ => False | .error e => E e s') s) :
    wpC M A (runValue c) Q E s := fun Γ p hΓ hU => by rw [Sem.wp_runValue]; exact hc _ p rfl (hΓ.enter c none p (by intro x; cases x)) (hU.enter c none p)
theorem wpC_call {f : Value} {pos : List Value} {kw : List (Str × Value)} {Q : Value → Shared → Prop}
    (hc : codeC M A (.call f ⟨pos, kw⟩) (fun r s' => match r with | .ok (.ret v) => Q v s' | .ok _ => False | .error e => E e s') s) :
    wpC M A (call f pos kw) Q E s := wpC_runValue hc
theorem wpC_runOwn {env : Env} {c : Code} {h : Option Value} {Q : Flow → Shared → Prop}
    (hc : codeC M (A.mark h) c (fun r s' => match r with | .ok f => Q f s' | .error e => cameBackBy M A env E e s') s) (hnb : h ≠ some byPass := by intro x; cases x) :
    wpC M A (runOwn c env h) Q E s := by
  unfold runOwn
  exact wpC_onRaise (wpC_mono (wpC_run hc hnb) (fun _ _ x => x) fun _ _ x => wpC_of x)
theorem codeC_of_tree {c : Code} {R : Result → Shared → Prop}
    (h : wpC M (A.under c) (M.den c) (fun fin s' => match fin with | .done f => R (.ok f) s' | .again c' => c'.quiet = true ∧ codeC M A c' R s')
      (fun e s' => R (.error e) s') s) : codeC M A c R s := fun Γ p hc hΓ hU => by
  rw [wpCode_iff_wp, hc]
  refine Sem.wp_mono M Γ _ (fun fin p' s' h' => ?_) (fun _ _ _ h' => h') p s (h Γ p (hc ▸ hΓ.in) (.inr hU))
  cases fin with
  | done f => exact h'
  | again c' => exact ⟨h'.1, h'.2 (Γ.goto c') p' rfl (hΓ.goto c') hU⟩
theorem codeC_loop {c : Code} {R : Result → Shared → Prop} (hq : c.quiet = true) (I : Nat → Shared → Prop)
    (turn : ∀ n s, I n s → wpC M (A.under c) (M.den c)
      (fun fin s' => match fin with | .done f => R (.ok f) s' | .again c' => c' = c ∧ ∃ m, m < n ∧ I m s') (fun e s' => R (.error e) s') s)
    (n : Nat) (h : I n s) : codeC M A c R s := by
  induction n using Nat.strongRecOn generalizing s with
  | ind n ih =>
    refine codeC_of_tree (wpC_mono (turn n s h) (fun fin s' hf => ?_) fun _ _ h' => h')
    cases fin with
    | done f => exact hf
    | again c' => obtain ⟨rfl, m, hm, hI⟩ := hf; exact ⟨hq, ih m hm hI⟩
theorem wpC_of_eq {t : Sem α} {a : α} {Q : α → Shared → Prop} (e : t = pure a) (h : Q a s) : wpC M A t Q E s := e ▸ wpC_pure h
theorem wpC_ite {c : Prop} [Decidable c] {a b : Sem α} {Q : α → Shared → Prop} (h : if c then wpC M A a Q E s else wpC M A b Q E s) :
    wpC M A (if c then a else b) Q E s := by split <;> simp_all
theorem not_madeC {own : List String} {l : List Code} (h : l.any Code.isCaller = true) : pythonCodeMadeTheCall own l = false := by
  show (!(l.any Code.isCaller) && (l.any fun c => c.env?.isSome) && _) = false
  rw [h]; rfl
theorem wpC_mark {own : List String} {e : Value} {Q : Unit → Shared → Prop} (h : Q () s) : wpC M A (markTheRefusal own e) Q E s := fun Γ p hΓ hU => by
  unfold markTheRefusal
  rw [Sem.wp_bind']
  show wp M Γ (if pythonCodeMadeTheCall own (((Γ.code, p) :: Γ.below).map (·.1)) = true then _ else _) _ _ p s
  rw [not_madeC (hU.stack p)]
  exact h
end
end Mine
end PartC0

section PartC1
open PySem PySem.W PyProof.Rows PySem.Calls PySem.Spec
set_option linter.all false
set_option maxRecDepth 100000
namespace Mine
theorem int_new_eq (x : PySem.Str) (u : Tok) : Builtin.«int.__new__» ⟨[.type "int", .str x u], []⟩ = (do let v ← (int_private% "intFromText") (.str x u) (numTextOf x) 10; ret v) := by
  have f1 := F.conv_sub_int
  have f2 := F.madeHere_int
  have f3 := KIN.str_int
  have f4 := KIN.str_idx
  have f5 := KIN.str_trunc
  have f6 : typeOf (.str x u) = pure (.type "str") := rfl
  have f7 : isType (.type "int") = pure true := by kernel_rfl
  unfold Builtin.«int.__new__»
  simp only [f1, f2, f7, pure_bind, Bool.not_true, Bool.false_eq_true, if_false]
  have r : (int_private% "intFromObject") (.str x u) = (int_private% "intFromText") (.str x u) (numTextOf x) 10 := by
    have g (n : PySem.Str) (e : typeLookup (.type "str") n = pure none) : specialOf (.str x u) n = pure none := by
      unfold specialOf
      simp only [f6, pure_bind, e]
    have g1 : callSpecial? (.str x u) "__int__" = pure none := by
      unfold callSpecial?
      simp only [g _ f3, pure_bind]
    show (callSpecial? (.str x u) "__int__" >>= _) = _
    rw [g1, pure_bind]
    show (specialOf (.str x u) "__index__" >>= _) = _
    rw [g _ f4, pure_bind]
    show (specialOf (.str x u) "__trunc__" >>= _) = _
    rw [g _ f5, pure_bind]
    rfl
  show (do let v ← (int_private% "intFromObject") (.str x u); ret v) = _
  rw [r]
theorem type_call_eq (v : Value) : ∃ k, Builtin.«type.__call__» ⟨[.type "int", v], []⟩ = (holding [.builtin "int.__new__"] (call (.builtin "int.__new__") [.type "int", v] []) >>= k) := by
  refine ⟨?_, ?_⟩
  rotate_left
  · unfold Builtin.«type.__call__»
    have h1 := F.called_int.notType
    have h2 := F.called_int.canCreate
    simp only [h1, h2, Bool.false_eq_true, if_false]
    rw [F.typeCall_int_1 v, pure_bind]
    rw [F.mro_int, pure_bind]
    simp only [List.isEmpty_cons, Bool.false_eq_true, if_false, F.called_int.made, pure_bind]
    rfl
section
variable {prog : Program} {w : World} {A : Around} {R : Result → Shared → Prop} {s : Shared}
theorem codeC_builtin {id : String} {args : Args} {b : Builtin} (hb : entryFor table id = some b)
    (h : wpC (model prog w) (A.under (.builtin id args)) (b args)
      (fun fin s' => match fin with | .done f => R (.ok f) s' | .again c' => c'.quiet = true ∧ codeC (model prog w) A c' R s') (fun e s' => R (.error e) s') s) :
    codeC (model prog w) A (.builtin id args) R s := by
  refine codeC_of_tree ?_
  show wpC _ _ (match entryFor table id with | some b => b args | none => unsupported ((withoutEnding? id "#data").getD id)) _ _ s
  rw [hb]; exact h
theorem codeC_call_builtin {id : String} {args : Args} {b : Builtin} (hq : (Code.builtin id args).quiet = true) (hb : entryFor table id = some b) (hc : checkBuiltinCall id args = pure ())
    (h : wpC (model prog w) (A.under (.builtin id args)) (b args)
      (fun fin s' => match fin with | .done f => R (.ok f) s' | .again c' => c'.quiet = true ∧ codeC (model prog w) A c' R s') (fun e s' => R (.error e) s') s) : codeC (model prog w) A (.call (.builtin id) args) R s := by
  refine codeC_of_tree ?_
  show wpC _ _ (do checkBuiltinCall id args; again (.builtin id args)) _ _ s
  rw [hc, pure_bind]
  exact wpC_pure (And.intro hq (codeC_builtin hb h))
end
section
variable {prog : Program} {w : World} {A : Around} {E : Value → Shared → Prop} {s : Shared} {Q : Value → Shared → Prop} {x : PySem.Str} {u : Tok}
theorem text_fail (hl : x.length ≤ 100) (hc : ∀ c ∈ x.cps.toList, c < 16 ^ 8) (hn : PySem.intText? x = none)
    (h : ∀ h' tk e vs, Heap.MadeExc s.heap h' e "ValueError" vs → wpAny (model prog w) A (raiseNew (.ref e) : Sem Value) Q E { s with heap := h', toks := tk }) :
    wpC (model prog w) A ((int_private% "intFromText") (.str x u) (numTextOf x) 10) Q E s := by
  have hs : (numSeenOf x).length ≤ 640 := Nat.le_trans (seen_length x) (Nat.le_trans hl (by decide))
  have hr := Nat.le_trans (PySem.StrLaws.reprText_len x hc) (show 10 * x.length + 2 ≤ 10 * 100 + 2 by omega)
  have last : ∀ s₁ : Shared, s₁ = s → wpC (model prog w) A (do
      rule "int.__new__.invalid-literal"
      let shown ← pyRepr (.str x u)
      let refusal ← newExc (.type "ValueError") [← mkStr (((s!"invalid literal for int() with base {(10 : Nat)}: " : String) ++ ⟨shown.cps.extract 0 200⟩ : Str))]
      markTheRefusal ["int.__new__"] refusal
      raiseNew refusal) Q E s₁ := by
    rintro s₁ rfl
    refine wpC_cut (wpAny_rule (wpC_cut (wpAny_pyRepr_str ?_ (by rw [sizeLine_eq]; omega))))
    refine wpC_cut (wpAny_mkStr ?_ ?_)
    · refine wpC_cut (wpAny_newExc_plain plainExc_ValueError fun h' e hm => ?_)
      refine wpC_bind (wpC_mark ?_)
      exact wpC_of (h h' _ e _ hm)
    · have e : ∀ a b : PySem.Str, (a ++ b).length = a.length + b.length := fun a b => Array.size_append
      rw [e]
      have e2 : (⟨(reprText x).cps.extract 0 200⟩ : PySem.Str).length ≤ 200 := by
        show ((reprText x).cps.extract 0 200).size ≤ 200
        rw [Array.size_extract]; omega
      have e1 : (PySem.Str.ofString (toString "invalid literal for int() with base " ++ toString (10 : Nat) ++ toString ": ")).length ≤ 100 := by decide +kernel
      rw [sizeLine_eq]
      omega
  rcases read0 x hs with ⟨m, h1, _⟩ | ⟨_, hr | ⟨i, hr, ha⟩⟩
  · rw [hn] at h1; cases h1
  · show wpC _ _ (if (numSeenOf x).length ≤ 640 then _ else _) _ _ _
    rw [if_pos hs, pure_bind]
    dsimp only
    rw [show (int_private% "readNumeral") 0 10 (List.takeWhile (fun c => c != 0) (numTextOf x)) = _ from hr]
    exact last s rfl
  · show wpC _ _ (if (numSeenOf x).length ≤ 640 then _ else _) _ _ _
    rw [if_pos hs, pure_bind]
    dsimp only
    rw [show (int_private% "readNumeral") 0 10 (List.takeWhile (fun c => c != 0) (numTextOf x)) = _ from hr]
    show wpC _ _ (if ((numSeenOf x).length == (numTextOf x).length) = true then _ else _) _ _ _
    rw [if_neg ha]
    exact last s rfl
theorem call_fail (hl : x.length ≤ 100) (hc : ∀ c ∈ x.cps.toList, c < 16 ^ 8) (hn : PySem.intText? x = none)
    (h : ∀ A' h' tk e vs, A'.handled = A.handled → A'.units ≤ A.units + 4 → Heap.MadeExc s.heap h' e "ValueError" vs → wpAny (model prog w) A' (raiseNew (.ref e) : Sem Value) (fun _ _ => False) E { s with heap := h', toks := tk }) :
    wpC (model prog w) A (call (.type "int") [.str x u]) Q E s := by
  refine wpC_call (codeC_of_tree ?_)
  show wpC _ _ (callAny (.type "int") _) _ _ _
  refine wpC_pure ⟨Code.quiet_builtin _ (by decide +kernel), codeC_builtin F.entry_type_call ?_⟩
  obtain ⟨k, e⟩ := type_call_eq (.str x u)
  rw [e]
  refine wpC_bind (wpC_holding (wpC_call (codeC_call_builtin (plainId_quiet F.called_int.plain _) F.entry_int_new (F.newCall_int_1 _) ?_)))
  rw [int_new_eq]
  refine wpC_bind (text_fail hl hc hn fun h' tk e vs hm => wpAny_mono (h _ h' tk e vs ?_ ?_ hm) (fun _ _ z => z.elim) fun _ _ z => z)
  · rfl
  · show A.units + 1 + 1 ≤ A.units + 4
    omega
end
end Mine
end PartC1

section PartC2
open PySem PySem.W PyProof.Rows PySem.Calls
set_option linter.all false
namespace Mine
theorem under_caller : Under (⟨.builtin "claim.caller" {}, none, none, [], none⟩ : PySem.Ctx) := .inl rfl
section
variable {prog : Program} {w : World} {t : Sem Fin} {s : Shared}
theorem ends_C {R : Result → Shared → Prop} (hz : s.asleep)
    (h : wpC (model prog w) callerA t (fun fin s' => ∃ f, fin = .done f ∧ R (.ok f) s' ∧ AllBare s'.gens) (fun e s' => R (.error e) s' ∧ AllBare s'.gens) s) :
    ∃ n r s' s'', runN (denote table) prog w n s ⟨t, .builtin "claim.caller" {}, default, []⟩ = .halted (outcomeOf r) s' ∧
      schedN (denote table) prog w n (.single s ⟨t, .builtin "claim.caller" {}, default, []⟩) = .halted (outcomeOf r) s' ∧ s'.forget = s''.forget ∧ R r s'' := by
  have hw := h _ default caller_in under_caller
  obtain ⟨n, r, s₁, s₂, hs, hn, hfo, hR⟩ := wp_halts_full (M := model prog w) (R := R) hz (Sem.wp_mono _ _ t (fun fin p' s' h' => by
    obtain ⟨f, rfl, h1, h2⟩ := h'
    exact (⟨h1, leftWithCleanup_false_of_bare h2⟩ : _ ∧ _)) (fun e p' s' h' => ⟨h'.1, leftWithCleanup_false_of_bare h'.2⟩) default s hw)
  exact ⟨n, r, s₂, s₁, hn, hs, hfo, hR⟩
end
theorem from_C {c : ClaimW} {tree : List Value → Sem Fin} {w : World} {s : Shared} {free : Addr → Prop} {gens : Prop} {kept : Heap → Prop} (hz : s.asleep) (hgens : s.gens = #[])
    (spec : ∀ args, c.pre args = true → WData.layableAll args = true → ∀ ord : List DictEntry → List DictEntry, (∀ l, (ord l).Perm l) →
      ∃ vs s₁, layAllW c.records (classAt s.heap) w.params ord args s = some (vs, s₁) ∧
        wpC (model c.prog w) callerA (tree vs) (fun fin s' => ∃ f, fin = .done f ∧ (c.Ends s args vs s₁ (.ok f) s' ∧ s'.os = s.os ∧ kept s'.heap) ∧ AllBare s'.gens)
          (fun e s' => (c.Ends s args vs s₁ (.error e) s' ∧ s'.os = s.os ∧ kept s'.heap) ∧ AllBare s'.gens) s₁) :
    c.CallFrom (fun vs => ⟨tree vs, .builtin "claim.caller" {}, default, []⟩) w free gens kept s := by
  intro args hpre hlay ord hord
  obtain ⟨vs, s₁, hlaid, hcode⟩ := spec args hpre hlay ord hord
  obtain ⟨_, _, _, hl⟩ := layAllW_rest _ _ _ hlaid
  obtain ⟨k, r, s', s'', hrun, hsched, hfo, hcase, hos, hkp⟩ := ends_C (R := fun r s' => c.Ends s args vs s₁ r s' ∧ s'.os = s.os ∧ kept s'.heap) (Shared.asleep_of_life hl hz) hcode
  obtain ⟨eh, _, _, eo, _⟩ := Shared.forget_eq hfo
  have hcase := hcase.congr eh
  rw [← eh] at hkp
  rw [← eo] at hos
  have hlife : s'.heap.life = s.heap.life := (runN_life _ _ _ hrun).trans hl
  refine ⟨vs, s₁, hlaid, k, _, s', hsched, ?_, (fun _ i x hx => by rw [hgens] at hx; simp at hx), hkp, by rw [hlife], Shared.rest_eq hos⟩
  rcases hcase with ⟨v, rfl, d1, d2, d3, d4, d5⟩ | ⟨e, ob, cls, rfl, d1, d2, d3, d4, d5⟩
  · exact .inl ⟨v, rfl, d1, d2, d3, fun b o y _ => d4 b o y, d5⟩
  · exact .inr ⟨e, ob, cls, rfl, d1, d2, d3, d4, fun b o y _ => d5 b o y⟩
abbrev WalkC (q : Program) (loose : List Str) (XP : (Str → Option Value) → Heap → Prop) (YP : World → Heap → Prop) (r : RowW) (d : DefRec) (kwd : List (Str × Expr)) : Prop :=
  ∀ (w : World) (s₀ s₁ : Shared) (mg mb : Str → Option Value), Ground q loose r.records XP w s₀ mg mb s₁.heap → YP w s₁.heap → ∀ (a : Addr) (o : Obj) (pm cd doc dV kV : Value), s₁.heap.get? a = some o →
    o.data = .func { docDef d.name d.params d.body d.scope pm cd doc with defaults := dV, kwdefaults := kV } → s₁.heap.CodeRec cd d.name → Dflts mg s₁.heap d.params kwd dV kV → mg d.name = some (.ref a) → s₁.gens = #[] →
    ∀ (args : List WData) (vals : List Value) (as : List Addr), r.claim.pre args = true → WData.layableAll args = true → ReadsAllW r.records (classAt s₀.heap) s₁.heap vals args as → WellAll w.params s₁.heap vals args → (∀ a ∈ as, (a == sysModules) = false) →
      wpC (model r.prog w) callerA (PySem.call (.ref a) vals) (fun v s' => GoodWG r.claim (classAt s₀.heap) (ExcName.means s₀.heap) args s₁ (.ok (.ret v)) s')
        (fun e s' => GoodWG r.claim (classAt s₀.heap) (ExcName.means s₀.heap) args s₁ (.error e) s') s₁
theorem PySem.W.holds_open {r : OpenRow} {q : Program} {loose : List Str} {Xt : Shared → Bool} {XP : (Str → Option Value) → Heap → Prop} {α : Type} {Yf : Shared → α} {Ya : World → α} {YP : World → Heap → Prop} {d : DefRec} {kwd : List (Str × Expr)} {N : Nat}
    (left : LeftO r.prog q loose Xt Yf Ya N) (hY : ∀ w s, Yf s = Ya w → YP w s.heap) (hYk : ∀ w h h', YP w h → (∀ b o, h.get? b = some o → h'.get? b = some o) → YP w h')
    (hX : ∀ s, Xt s = true → XP (s.heap.nsMap mainGlobals) s.heap) (hXk : ∀ mg h h', XP mg h → (∀ b o, h.get? b = some o → h'.get? b = some o) → XP mg h')
    (hdef : defOf q r.name = some (d, kwd)) (hp : r.prog.theDef r.name = some (d.params, d.body, d.scope)) (hk : kwWritten? d.params.kwonlyargs d.params.kw_defaults = some kwd) (hRf : ∀ s, Xt s = true → RecFacts r.records s.heap) (hwr : (!r.writes || r.records.isEmpty) = true)
    (k1 : r.wellSaid = true) (ok : (chainsOk q && opensWell r.prog && (frees r.toRowW && r.within.isEmpty)) = true) (hb : r.prog.bare) (hw : r.toRowW.promised)
    (walk : WalkC q loose XP YP r.toRowW d kwd) : r.Holds := by
  obtain ⟨ok, k5⟩ := Bool.and_eq_true_iff.mp ok
  obtain ⟨hch, o1⟩ := Bool.and_eq_true_iff.mp ok
  obtain ⟨k5, k6⟩ := Bool.and_eq_true_iff.mp k5
  obtain ⟨hsame, hu, ha, hap, hm⟩ := frees_parts k5
  refine ⟨k1, hw, ⟨hb, o1, by show r.toRowW.makers.map _ = []; rw [hm]; rfl⟩, hw.witness, fun w => ⟨(left.behind hX hch w).1, fun s' hs' => ?_⟩⟩
  obtain ⟨s₀, hf, hg0, s, hT, hz, hgens, hg, G00, y⟩ := (left.behind (XP := fun mg h => XP mg h ∧ RecFacts r.records h) (fun s hs => ⟨hX s hs, hRf s hs⟩) hch w).2 s' hs'
  have G0 : Ground q loose [] XP w s (s.heap.nsMap mainGlobals) (s.heap.nsMap builtinsNs) s.heap := ⟨G00.T, G00.B, G00.D, G00.TE, G00.TD, G00.W, G00.X.1, G00.cls, G00.has, G00.apart, G00.once, G00.K⟩
  have RF := G00.X.2
  have hT' := hT
  refine ⟨s₀, hf, hg0, s, hT, fun n hn => ?_, RF.1, RF.2.1, ?_⟩
  · obtain rfl : n = r.name := by split at hn <;> simp_all
    exact pinned_of_view hg G0 hdef hp hk
  have hgens : s.gens = #[] := Array.eq_empty_of_size_eq_zero (beq_iff_eq.mp hgens)
  have G : Ground q loose r.records XP w s _ _ s.heap := RF.ground G0
  refine from_C (c := r.claim) (tree := fun vs => do match ← nsGet mainNs r.name with
      | some f => do ret (← PySem.call f vs)
      | none => unsupported "claim.caller:no-such-global") hz hgens fun args hpre hlay ord hord => ?_
  obtain ⟨⟨vs, s₁⟩, hlaid⟩ := Option.isSome_iff_exists.mp (layAllW_isSome (P := w.params) (ord := ord) G.has args r.args s (pre_splitW hpre).1)
  have keeps := layAllW_keeps _ _ _ hlaid
  obtain ⟨e1, _, e3, _⟩ := layAllW_rest _ _ _ hlaid
  obtain ⟨as, hrd, hin, hold⟩ := reads_layAllW hord _ _ _ hlaid hlay s₁.heap (fun _ _ e => e)
  have L : Laid r.records w s s₁ args vs as := ⟨⟨ord, hord, hlaid⟩, hrd, hin, hold, keeps, e1.trans hgens, e3⟩
  have G₁ := G.keeps hXk keeps
  obtain ⟨a, o, pm, cd, doc, dV, kV, h1, h2, h3, h4, h5⟩ := G₁.fn hdef
  have hc := walk w s s₁ _ _ G₁ (hYk _ _ _ (hY w s y) keeps) a o pm cd doc dV kV h2 h3 h4 h5 (defOf_name hdef ▸ h1) L.gens args vs as hpre hlay L.reads L.well (L.low G.low)
  have hi := ident_freeW hu ha hap
  have hwi : r.claim.within = [] := List.isEmpty_iff.mp k6
  refine ⟨vs, s₁, hlaid, wpC_cut (wpAny_nsGet G₁.T.g ?_)⟩
  have h1' : (s.heap.nsMap mainGlobals) r.name = some (.ref a) := h1
  rw [h1']
  refine wpC_bind (wpC_mono hc (fun v s' g => wpC_pure ⟨_, rfl, ?_⟩) fun e s' g => ?_)
  · have z := g.laid (c := r.claim) hsame hwi hi L
    exact ⟨⟨z.1, z.2.1, fun q => ⟨namesKept_of hT' hg _ keeps g.2.1.old, noTable hwr q⟩⟩, z.2.2⟩
  · have z := g.laid (c := r.claim) hsame hwi hi L
    exact ⟨⟨z.1, z.2.1, fun q => ⟨namesKept_of hT' hg _ keeps g.2.1.old, noTable hwr q⟩⟩, z.2.2⟩
end Mine
end PartC2

section PartBqTop
open PySem PySem.W PyProof.Rows
namespace Mine
set_option maxRecDepth 100000 in
set_option maxHeartbeats 8000000 in
open_top hd for PySem.Challenge.rw_bq5007_01
end Mine
end PartBqTop

local macro_rules | `(tactic| walk_at "no key") => `(tactic| fail)
section PartB1
open PySem PySem.W PyProof.Rows PySem.Calls PySem.Spec
set_option linter.all false
namespace Mine
theorem fill : ∀ w h, (Mine.hd.heap_39 w).In h → PySem.Challenge.rw_bq5007_01.row.prog = PySem.Challenge.rw_bq5007_01.row.prog := by
  k_fill
  intros; rfl

def fronts : List Str := [Str.ofString "", Str.ofString "", Str.ofString "+", Str.ofString "-", Str.ofString " ", Str.ofString "0"]
def misses : List Str := [Str.ofString "", Str.ofString "/", Str.ofString "3/", Str.ofString "/3", Str.ofString "x/1", Str.ofString "1/x", Str.ofString "1.5", Str.ofString "+", Str.ofString "- 1", Str.ofString "1 2"]
theorem fmod_lo (x : Int) {k : Int} (h : 0 < k) : 0 ≤ x.fmod k := Int.fmod_nonneg_of_pos x h
theorem fmod_hi (x : Int) {k : Int} (h : 0 < k) : x.fmod k < k := Int.fmod_lt_of_pos x h

theorem fronts_len (i : Nat) : (fronts.getD i Str.empty).length ≤ 1 := by
  unfold fronts
  match i with
  | 0 => decide
  | 1 => decide
  | 2 => decide
  | 3 => decide
  | 4 => decide
  | 5 => decide
  | n + 6 => simp [List.getD]; decide
local macro_rules | `(tactic| kt_len) => `(tactic| exact fronts_len _)
def drawn (n : Int) : Str :=
  if n.fmod 4 = 0 then fronts.getD ((n.fdiv 336).fmod 6).toNat Str.empty ++ Str.ofString (toString ((n.fdiv 4).fmod 12))
  else if n.fmod 4 = 1 then fronts.getD ((n.fdiv 336).fmod 6).toNat Str.empty ++ Str.ofString (toString ((n.fdiv 4).fmod 12)) ++ Str.ofString "/" ++ fronts.getD ((n.fdiv 336).fmod 6).toNat Str.empty ++ Str.ofString (toString ((n.fdiv 48).fmod 7))
  else if n.fmod 4 = 2 then Str.ofString (toString ((n.fdiv 4).fmod 12)) ++ Str.ofString "/" ++ Str.ofString (toString ((n.fdiv 48).fmod 7)) ++ Str.ofString "/x"
  else misses.getD ((n.fdiv 4).fmod 10).toNat Str.empty

local macro_rules | `(tactic| walk_at "subscriptTail") => `(tactic| (k_here; (with_reducible show wpAny _ _ (subscriptTail _ _ (Value.ref _) (Value.int (Int.fmod _ _) _)) _ _ _); k_dflt (refine' KTb.item_tup (ws := fronts) ?ktbl ?ktbw ?ktb0 ?ktb1 ?ktbf ?_; (case ktbl => exact News.isTup (by k_asm) (by k_mem)); (case ktbw => unfold fronts; repeat constructor); (case ktb0 => exact fmod_lo _ (by decide)); (case ktb1 => exact fmod_hi _ (by decide)); (case ktbf => exact Int.lt_trans (fmod_hi _ (by decide)) (by decide))); intro _ ktbLt))
local macro_rules | `(tactic| walk_at "subscriptTail") => `(tactic| (k_here; (with_reducible show wpAny _ _ (subscriptTail _ _ (Value.ref 309) (Value.int (Int.fmod _ _) _)) _ _ _); k_dflt (refine' KTb.item_tup (ws := misses) ?ktbl ?ktbw ?ktb0 ?ktb1 ?ktbf ?_; (case ktbl => exact tupK (by k_in) (by k_is)); (case ktbw => unfold misses; repeat constructor); (case ktb0 => exact fmod_lo _ (by decide)); (case ktb1 => exact fmod_hi _ (by decide)); (case ktbf => exact Int.lt_trans (fmod_hi _ (by decide)) (by decide))); intro _ ktbLt))

section
variable {pt : Program} {w : World} {mean : ExcName → Option Value} {mg mb : Str → Option Value} {dp un : Nat} {gd : Option (List Code)} {cn : Str} {cs : Scope} {a : Addr} {ccd : Value} {cl : List (Str × Addr)} {outer : List Env} {A₀ : Around} {base h₀ : Heap} {L : Addr} {m : Str → Option Value} {news : List (Addr × Obj)} {s : Shared} {Q E : Value → Shared → Prop} {loose : List Str}

set_option maxRecDepth 100000 in
set_option maxHeartbeats 8000000 in
theorem drawn_call 
  {n : Int} {t : Tok}
  (B : Below A₀ base outer h₀) (F : Fr h₀ L s.heap m) (X : (Mine.hd.heap_39 w.params).In h₀) (N : News h₀ L s.heap news) (T : Top pt loose mean mg mb h₀) (hk : cs.kind = .function) (hd : dp + 1 < recursionLimit) (hu : un + 8 < cLine)
  (hret : ∀ t h' tk', Fr h₀ L h' m → News h₀ L h' news → Q (.str (drawn n) t) { s with heap := h', toks := tk' }) :
  wpAny (model PySem.Challenge.rw_bq5007_01.row.prog w) (ktrTop dp un gd cn cs L a ccd cl outer) (call (.ref 344) [.int n t]) Q E s := by
  w_strict (
    w_top off
    refine wpAny_call ?_
    k_dflt cell_enter
    k_steps
    all_goals (refine cb_retS (Q := Q) (s := s) hret ?e1 ?e2 ?e3; (case e2 => k_asm); (case e3 => first | k_asm | exact cb_drop (by assumption) (by kcj_all)); (case e1 => unfold drawn; simp [*])))
end
end Mine
end PartB1

local macro_rules | `(tactic| walk_at "no key") => `(tactic| fail)
local macro_rules | `(tactic| walk_at "no key") => `(tactic| fail)
local macro_rules | `(tactic| walk_at "no key") => `(tactic| fail)
section PartB2
open PySem PySem.W PyProof.Rows PySem.Calls PySem.Spec
set_option linter.all false
namespace Mine
theorem fill0 : ∀ w h, (Mine.hd.heap_39 w).In h → PySem.Challenge.rw_bq5007_01.row.prog = PySem.Challenge.rw_bq5007_01.row.prog := by
  k_fill
  intros; rfl
section
variable {pt : Program} {w : World} {mean : ExcName → Option Value} {mg mb : Str → Option Value} {dp un : Nat} {gd : Option (List Code)} {cn : Str} {cs : Scope} {a : Addr} {ccd : Value} {cl : List (Str × Addr)} {outer : List Env} {A₀ : Around} {base h₀ : Heap} {L : Addr} {m : Str → Option Value} {news : List (Addr × Obj)} {s : Shared} {Q E : Value → Shared → Prop} {loose : List Str}
end
def isDig (c : Nat) : Bool := decide (48 ≤ c) && decide (c ≤ 57)
theorem mem_dig (c : Nat) : decide (c ∈ (Str.ofString "0123456789").cps.toList) = isDig c := by
  have e : (Str.ofString "0123456789").cps.toList = [48,49,50,51,52,53,54,55,56,57] := by decide
  rw [e]
  unfold isDig
  rw [Bool.eq_iff_iff]
  simp only [decide_eq_true_eq, List.mem_cons, List.not_mem_nil, or_false, Bool.and_eq_true]
  omega
theorem find_dig {c : Nat} (h : isDig c = true) : Txt.find (Str.ofString "0123456789") ⟨#[c]⟩ = (c : Int) - 48 := by
  have : 48 ≤ c ∧ c ≤ 57 := by simpa [isDig] using h
  have : c = 48 ∨ c = 49 ∨ c = 50 ∨ c = 51 ∨ c = 52 ∨ c = 53 ∨ c = 54 ∨ c = 55 ∨ c = 56 ∨ c = 57 := by omega
  rcases this with rfl | rfl | rfl | rfl | rfl | rfl | rfl | rfl | rfl | rfl <;> decide +kernel
section
variable {prog : Program} {w : World} {A : Around} {E : Value → Shared → Prop} {s : Shared} {t u : Tok} {Q : Value → Shared → Prop}
theorem notIn_dig {c : Nat} (h : Q (.bool (!isDig c)) s) : wpAny (model prog w) A (compareOp .NotIn (.str ⟨#[c]⟩ t) (.str (Str.ofString "0123456789") u)) Q E s := by
  refine notIn_str ?_
  rw [StrLaws.found_one, mem_dig]
  exact h
theorem index_dig {c : Nat} (hA : A.handled = none) (hc' : isDig c = true) (h : Q (.int ((c : Int) - 48) s.toks) { s with toks := s.toks + 1 }) : wpAny (model prog w) A (call (.builtin "str.index") [.str (Str.ofString "0123456789") t, .str ⟨#[c]⟩ u]) Q E s := by
  have e := find_dig hc'
  have hb : 48 ≤ c := by
    have : 48 ≤ c ∧ c ≤ 57 := by simpa [isDig] using hc'
    exact this.1
  refine index_or hA (fun e' _ => ?_) (fun _ _ => ?_)
  · exfalso; rw [e] at e'; omega
  · rw [e]; exact h
end
local macro_rules | `(tactic| walk_at "compareOp NotIn str str") => `(tactic| (k_here; (with_reducible show wpAny _ _ (compareOp CmpOp.NotIn (Value.str (Str.mk #[_]) _) (Value.str (Str.ofString "0123456789") _)) _ _ _); refine notIn_dig ?_))
local macro_rules | `(tactic| walk_at "call builtin:str.index") => `(tactic| (k_here; refine index_dig (by rfl) (by assumption) ?_))

def valStep (acc c : Int) : Int := acc * 10 + (c - 48)
def DigSum (pre : List Int) (tot : Int) : Prop := (∀ c ∈ pre, 48 ≤ c ∧ c ≤ 57) ∧ tot = pre.foldl valStep 0
theorem digSum_nil : DigSum [] 0 := ⟨fun _ h => (nomatch h), rfl⟩
theorem digSum_snoc {pre : List Int} {tot : Int} {n : Nat} (h : DigSum pre tot) (hd : isDig n = true) : DigSum (pre ++ [(n : Int)]) (tot * 10 + ((n : Int) - 48)) := by
  have h2 : 48 ≤ n ∧ n ≤ 57 := by simpa [isDig, Bool.and_eq_true] using hd
  refine And.intro (fun c hc => ?_) ?_
  · rcases List.mem_append.mp hc with hc | hc
    · exact h.1 c hc
    · rw [List.mem_singleton.mp hc]; omega
  · rw [List.foldl_append, ← h.2]; rfl
def digI (c : Int) : Bool := decide (48 ≤ c) && decide (c ≤ 57)
def wholeW (word : Str) (sg : Int) : Option Int := if (word == Str.ofString "") = true then none else if (KStt.codes word).all digI = true then some (sg * (KStt.codes word).foldl valStep 0) else none
def whole (x : Str) : Option Int :=
  if ([Str.ofString "+", Str.ofString "-"].any fun y => y == Txt.slice (Txt.stripChars x (Str.ofString " ")) none (some 1)) = true then
    (if (Txt.slice (Txt.stripChars x (Str.ofString " ")) none (some 1) == Str.ofString "-") = true then wholeW (Txt.slice (Txt.stripChars x (Str.ofString " ")) (some 1) none) (-1) else wholeW (Txt.slice (Txt.stripChars x (Str.ofString " ")) (some 1) none) 1)
  else wholeW (Txt.stripChars x (Str.ofString " ")) 1
section
variable {x word : Str} {sg tot : Int} {pre post : List Int} {n : Nat}
theorem whole_neg (h1 : ([Str.ofString "+", Str.ofString "-"].any fun y => y == Txt.slice (Txt.stripChars x (Str.ofString " ")) none (some 1)) = true) (h2 : (Txt.slice (Txt.stripChars x (Str.ofString " ")) none (some 1) == Str.ofString "-") = true) :
    whole x = wholeW (Txt.slice (Txt.stripChars x (Str.ofString " ")) (some 1) none) (-1) := by
  unfold whole; rw [if_pos h1, if_pos h2]
theorem whole_pos (h1 : ([Str.ofString "+", Str.ofString "-"].any fun y => y == Txt.slice (Txt.stripChars x (Str.ofString " ")) none (some 1)) = true) (h2 : (Txt.slice (Txt.stripChars x (Str.ofString " ")) none (some 1) == Str.ofString "-") = false) :
    whole x = wholeW (Txt.slice (Txt.stripChars x (Str.ofString " ")) (some 1) none) 1 := by
  unfold whole; rw [if_pos h1, if_neg (by rw [h2]; decide)]
theorem whole_no (h1 : ([Str.ofString "+", Str.ofString "-"].any fun y => y == Txt.slice (Txt.stripChars x (Str.ofString " ")) none (some 1)) = false) :
    whole x = wholeW (Txt.stripChars x (Str.ofString " ")) 1 := by
  unfold whole; rw [if_neg (by rw [h1]; decide)]
theorem wholeW_empty (h : (word == Str.ofString "") = true) : wholeW word sg = none := by unfold wholeW; rw [if_pos h]
theorem wholeW_bad (h : KStt.codes word = pre ++ (n : Int) :: post) (hn : isDig n = false) : wholeW word sg = none := by
  unfold wholeW
  split
  · rfl
  · rw [if_neg]
    rw [h, List.all_append, List.all_cons]
    have : digI (n : Int) = false := by
      unfold digI
      unfold isDig at hn
      simp only [Bool.and_eq_false_iff, decide_eq_false_iff_not] at *
      omega
    rw [this]; simp
theorem wholeW_ok (h : (word == Str.ofString "") = false) (hs : DigSum (KStt.codes word) tot) : wholeW word sg = some (sg * tot) := by
  unfold wholeW
  rw [if_neg (by rw [h]; decide), if_pos, ← hs.2]
  rw [List.all_eq_true]
  intro c hc
  have := hs.1 c hc
  simp [digI, this.1, this.2]
end
def optV : Option Int → Tok → Value
  | none, _ => .none
  | some i, t => .int i t
section
variable {h₀ h' : Heap} {L : Addr} {m : Str → Option Value} {news : List (Addr × Obj)} {s : Shared} {Q : Value → Shared → Prop} {o : Option Int} {tk' : Nat} {i : Int} {t : Tok}
theorem cb_retOn (hret : ∀ (t : Tok) (h' : Heap) (tk' : Nat), Fr h₀ L h' m → News h₀ L h' news → Q (optV o t) { s with heap := h', toks := tk' }) (e : o = none) (F : Fr h₀ L h' m) (N : News h₀ L h' news) : Q .none { s with heap := h', toks := tk' } := by
  subst e
  exact hret 0 h' tk' F N
theorem cb_retOs (hret : ∀ (t : Tok) (h' : Heap) (tk' : Nat), Fr h₀ L h' m → News h₀ L h' news → Q (optV o t) { s with heap := h', toks := tk' }) (e : o = some i) (F : Fr h₀ L h' m) (N : News h₀ L h' news) : Q (.int i t) { s with heap := h', toks := tk' } := by
  subst e
  exact hret t h' tk' F N
end
section
variable {pt : Program} {w : World} {mean : ExcName → Option Value} {mg mb : Str → Option Value} {dp un : Nat} {gd : Option (List Code)} {cn : Str} {cs : Scope} {a : Addr} {ccd : Value} {cl : List (Str × Addr)} {outer : List Env} {A₀ : Around} {base h₀ : Heap} {L : Addr} {m : Str → Option Value} {news : List (Addr × Obj)} {s : Shared} {Q E : Value → Shared → Prop} {loose : List Str}
set_option maxRecDepth 100000 in
set_option maxHeartbeats 8000000 in
theorem whole_call 
  {x : Str} {t : Tok}
  (B : Below A₀ base outer h₀) (F : Fr h₀ L s.heap m) (X : (Mine.hd.heap_39 w.params).In h₀) (N : News h₀ L s.heap news) (T : Top pt loose mean mg mb h₀) (hk : cs.kind = .function) (hd : dp + 1 < recursionLimit) (hu : un + 8 < cLine)
  (hx : x.length ≤ 100)
  (hret : ∀ t h' tk', Fr h₀ L h' m → News h₀ L h' news → Q (optV (whole x) t) { s with heap := h', toks := tk' }) :
  wpAny (model PySem.Challenge.rw_bq5007_01.row.prog w) (ktrTop dp un gd cn cs L a ccd cl outer) (call (.ref 316) [.str x t]) Q E s := by
  k_with "pyIter str" => k_state DigSum "total"
  k_with "state" => first | exact digSum_nil | exact digSum_snoc (by assumption) (by assumption)
  w_strict (
    w_top off
    refine wpAny_call ?_
    k_dflt cell_enter
    k_steps
    all_goals ((first | refine cb_retOn (Q := Q) (s := s) hret ?e1 ?e2 ?e3 | refine cb_retOs (Q := Q) (s := s) hret ?e1 ?e2 ?e3); (case e2 => k_asm); (case e3 => first | k_asm | exact cb_drop (by with_reducible assumption) (by kcj_all)); (case e1 => (first | rw [whole_neg (by with_reducible assumption) (by with_reducible assumption)] | rw [whole_pos (by with_reducible assumption) (by with_reducible assumption)] | rw [whole_no (by with_reducible assumption)]); first | exact wholeW_empty (by with_reducible assumption) | exact wholeW_bad (by with_reducible assumption) (by with_reducible assumption) | exact wholeW_ok (by with_reducible assumption) (by with_reducible assumption))))
end
end Mine
end PartB2

local macro_rules | `(tactic| walk_at "no key") => `(tactic| fail)
local macro_rules | `(tactic| walk_at "no key") => `(tactic| fail)
local macro_rules | `(tactic| walk_at "no key") => `(tactic| fail)
section PartB3
open PySem PySem.W PyProof.Rows PySem.Calls PySem.Spec
set_option linter.all false
namespace Mine
theorem fill3 : ∀ w h, (Mine.hd.heap_39 w).In h → PySem.Challenge.rw_bq5007_01.row.prog = PySem.Challenge.rw_bq5007_01.row.prog := by
  k_fill
  intros; rfl
section
variable {pt : Program} {w : World} {mean : ExcName → Option Value} {mg mb : Str → Option Value} {dp un : Nat} {gd : Option (List Code)} {cn : Str} {cs : Scope} {a : Addr} {ccd : Value} {cl : List (Str × Addr)} {outer : List Env} {A₀ : Around} {base h₀ : Heap} {L : Addr} {m : Str → Option Value} {news : List (Addr × Obj)} {s : Shared} {Q E : Value → Shared → Prop} {loose : List Str}
theorem whole_call2
  {x : Str} {t : Tok}
  (B : Below A₀ base outer h₀) (F : Fr h₀ L s.heap m) (X : (Mine.hd.heap_39 w.params).In h₀) (N : News h₀ L s.heap news) (T : Top pt loose mean mg mb h₀) (hk : cs.kind = .function) (hd : dp + 1 < recursionLimit) (hu : un + 8 < cLine)
  (hx : x.length ≤ 100)
  (h0 : whole x = none → ∀ h' tk', Fr h₀ L h' m → News h₀ L h' news → Q .none { s with heap := h', toks := tk' })
  (h1 : ∀ i t h' tk', whole x = some i → Fr h₀ L h' m → News h₀ L h' news → Q (.int i t) { s with heap := h', toks := tk' }) :
  wpAny (model PySem.Challenge.rw_bq5007_01.row.prog w) (ktrTop dp un gd cn cs L a ccd cl outer) (call (.ref 316) [.str x t]) Q E s := by
  refine whole_call B F X N T hk hd hu hx (fun t' h' tk' F' N' => ?_)
  cases e : whole x with
  | none => exact h0 e h' tk' F' N'
  | some i => exact h1 i t' h' tk' e F' N'
theorem whole_call_s
  {x : Str} {t : Tok} {i : Int} (e : whole x = some i)
  (B : Below A₀ base outer h₀) (F : Fr h₀ L s.heap m) (X : (Mine.hd.heap_39 w.params).In h₀) (N : News h₀ L s.heap news) (T : Top pt loose mean mg mb h₀) (hk : cs.kind = .function) (hd : dp + 1 < recursionLimit) (hu : un + 8 < cLine)
  (hx : x.length ≤ 100)
  (h1 : ∀ t h' tk', Fr h₀ L h' m → News h₀ L h' news → Q (.int i t) { s with heap := h', toks := tk' }) :
  wpAny (model PySem.Challenge.rw_bq5007_01.row.prog w) (ktrTop dp un gd cn cs L a ccd cl outer) (call (.ref 316) [.str x t]) Q E s := by
  refine whole_call B F X N T hk hd hu hx (fun t' h' tk' F' N' => ?_)
  rw [e]
  exact h1 t' h' tk' F' N'
def factor (x : Str) : Option (Int × Option Int) := match whole x with
  | some i => some (i, none)
  | none => match Txt.split x (Str.ofString "/") with
    | p0 :: p1 :: _ => (match whole p0, whole p1 with
      | some a, some b => some (a, some b)
      | _, _ => none)
    | _ => none
section
variable {x y0 y1 : Str} {i b : Int} {l : List (Str × Tok)}
theorem factor_some (h : whole x = some i) : factor x = some (i, none) := by unfold factor; rw [h]
theorem factor_short (h : whole x = none) (hl : (l.length : Int) < 2) (hlook : l.map (fun x => x.1) = Txt.split x (Str.ofString "/")) : factor x = none := by
  unfold factor; rw [h, ← hlook]
  match l with
  | [] => rfl
  | [_] => rfl
  | _ :: _ :: _ => simp only [List.length_cons] at hl; omega
theorem factor_no0 (h : whole x = none) (hlook : l.map (fun x => x.1) = Txt.split x (Str.ofString "/")) (h0 : (l.map (fun x => x.1))[Int.toNat 0]? = some y0) (w0 : whole y0 = none) : factor x = none := by
  unfold factor; rw [h, ← hlook]
  match l, h0 with
  | [], _ => rfl
  | [_], _ => rfl
  | p :: _ :: _, h0 =>
    obtain rfl : p.1 = y0 := by simpa using h0
    simp only [List.map_cons, w0]
theorem factor_no1 (h : whole x = none) (hlook : l.map (fun x => x.1) = Txt.split x (Str.ofString "/")) (h1 : (l.map (fun x => x.1))[Int.toNat 1]? = some y1) (w1 : whole y1 = none) : factor x = none := by
  unfold factor; rw [h, ← hlook]
  match l, h1 with
  | [], _ => rfl
  | [_], _ => rfl
  | p :: q :: _, h1 =>
    obtain rfl : q.1 = y1 := by simpa using h1
    simp only [List.map_cons, w1]
    cases whole p.1 <;> rfl
theorem factor_two (h : whole x = none) (hlook : l.map (fun x => x.1) = Txt.split x (Str.ofString "/")) (h0 : (l.map (fun x => x.1))[Int.toNat 0]? = some y0) (h1 : (l.map (fun x => x.1))[Int.toNat 1]? = some y1) (w0 : whole y0 = some i) (w1 : whole y1 = some b) : factor x = some (i, some b) := by
  unfold factor; rw [h, ← hlook]
  match l, h0, h1 with
  | [], h0, _ => cases h0
  | [_], _, h1 => cases h1
  | p :: q :: _, h0, h1 =>
    obtain rfl : p.1 = y0 := by simpa using h0
    obtain rfl : q.1 = y1 := by simpa using h1
    simp only [List.map_cons, w0, w1]
end
theorem allLt_mem {d : Addr} {l : List (Addr × Obj)} (h : AllLt d l) : ∀ p ∈ l, p.1 < d := by
  induction l with
  | nil => intro p hp; cases hp
  | cons q r ih =>
    intro p hp
    rcases List.mem_cons.mp hp with rfl | hp
    · exact h.1
    · exact ih h.2 p hp
theorem part_len {l : List Str} {x y : Str} {k : Nat} (h : ∀ a, a ∈ l → a.length ≤ x.length) (hy : l[k]? = some y) (hx : x.length ≤ 100) : y.length ≤ 100 := Nat.le_trans (h y (List.mem_of_getElem? hy)) hx
def dueObj (i : Int) (o : Option Int) (t1 t2 : Tok) : Obj := { cls := .type "tuple", data := .seq #[.int i t1, optV o t2] }
theorem strs_item {prog : Program} {w : World} {A : Around} {E : Value → Shared → Prop} {s : Shared} {value slice : PySem.Expr} {l : Addr} {vs : List Value} {ws : List PySem.Str} {k : Int} {u : Tok} {y : Str} {Q : Value → Shared → Prop}
    (hl : s.heap.IsList l vs.toArray) (hw : StrsAre vs ws) (hy : ws[k.toNat]? = some y) (h0 : 0 ≤ k) (hhi : k < 2 ^ 63) (h : ∀ t', Q (.str y t') s)
    (hs : subscripted slice false (.ref l) (.int k u) = operate [.ref l, .int k u] (getItem (.ref l) (.int k u)) := by with_unfolding_all rfl) :
    wpAny (model prog w) A (subscriptTail value slice (.ref l) (.int k u)) Q E s := by
  obtain ⟨t', e⟩ := hw.get k.toNat y hy
  exact tail_any hl.typeIs slot_list_getitem.lookup (wpAny_getItem_list hl h0 hhi (x := .str _ t') (by simpa using e) (h t')) hs
local macro_rules | `(tactic| walk_at "subscriptTail Name Constant ref int") => `(tactic| (k_here; (with_reducible show wpAny _ _ (subscriptTail _ _ (Value.ref _) (Value.int _ _)) _ _ _); k_dflt (refine' strs_item ?hl ?hw ?hy ?h0 ?h1 ?_; (case hy => with_reducible assumption); (case hl => exact News.isList (by k_asm) (by k_mem)); (case hw => assumption); (case h0 => decide); (case h1 => decide)); intro _))
local macro_rules | `(tactic| walk_at "call ref") => `(tactic| (k_here; (with_reducible show wpAny _ _ (call (Value.ref 316) [Value.str _ _]) _ _ _); k_dflt (refine' whole_call2 ?k1 ?k2 ?k3 ?k4 ?k5 ?kK ?kd ?ku ?kx ?_ ?_; (case k1 => k_asm); (case k2 => k_asm); (case k3 => k_asm); (case k4 => k_asm); (case k5 => k_asm); (case kK => exact rfl); (case kd => ktr_room); (case ku => ktr_units); (case kx => first | assumption | (refine' part_len ?pa ?pb ?pc; (case pa => assumption); (case pb => assumption); (case pc => assumption)))); (all_goals (intros; (try dsimp only); (try k_fold)))))
local macro_rules | `(tactic| walk_at "call ref") => `(tactic| (k_here; (with_reducible show wpAny _ _ (call (Value.ref 316) [Value.str _ _]) _ _ _); k_dflt (refine' whole_call_s ?ke ?k1 ?k2 ?k3 ?k4 ?k5 ?kK ?kd ?ku ?kx ?_; (case ke => with_reducible assumption); (case k1 => k_asm); (case k2 => k_asm); (case k3 => k_asm); (case k4 => k_asm); (case k5 => k_asm); (case kK => exact rfl); (case kd => ktr_room); (case ku => ktr_units); (case kx => first | assumption | (refine' part_len ?pa ?pb ?pc; (case pa => assumption); (case pb => assumption); (case pc => assumption)))); (all_goals (intros; (try dsimp only); (try k_fold)))))
set_option maxRecDepth 100000 in
set_option maxHeartbeats 8000000 in
theorem factor_call 
  {x : Str} {t : Tok}
  (B : Below A₀ base outer h₀) (F : Fr h₀ L s.heap m) (X : (Mine.hd.heap_39 w.params).In h₀) (N : News h₀ L s.heap news) (T : Top pt loose mean mg mb h₀) (hk : cs.kind = .function) (hd : dp + 2 < recursionLimit) (hu : un + 16 < cLine)
  (hx : x.length ≤ 100)
  (hret0 : factor x = none → ∀ h' tk', Fr h₀ L h' m → News h₀ L h' news → Q .none { s with heap := h', toks := tk' })
  (hret1 : ∀ i o D t1 t2 h' tk', factor x = some (i, o) → Fr h₀ L h' m → News h₀ L h' ((D, dueObj i o t1 t2) :: news) → (∀ p ∈ news, p.1 < D) → Q (.ref D) { s with heap := h', toks := tk' }) :
  wpAny (model PySem.Challenge.rw_bq5007_01.row.prog w) (ktrTop dp un gd cn cs L a ccd cl outer) (call (.ref 323) [.str x t]) Q E s := by
  w_strict (
    w_top off
    refine wpAny_call ?_
    k_dflt cell_enter
    k_steps
    all_goals (first
      | (refine' hret0 ?e1 _ _ ?e2 ?e3; (case e2 => k_asm); (case e3 => first | k_asm | exact cb_drop (by with_reducible assumption) (by kcj_all)); (case e1 => first | exact factor_short (by with_reducible assumption) (by with_reducible assumption) (by with_reducible assumption) | exact factor_no0 (by with_reducible assumption) (by with_reducible assumption) (by with_reducible assumption) (by with_reducible assumption) | exact factor_no1 (by with_reducible assumption) (by with_reducible assumption) (by with_reducible assumption) (by with_reducible assumption)))
      | (refine' hret1 _ none _ _ 0 _ _ ?e1 ?e2 ?e3 ?e4; (case e1 => exact factor_some (by with_reducible assumption)); (case e2 => k_asm); (case e3 => first | k_asm | exact cb_drop (by with_reducible assumption) (by kcj_all)); (case e4 => assumption))
      | (refine' hret1 _ (some _) _ _ _ _ _ ?e1 ?e2 ?e3 ?e4; (case e1 => exact factor_two (by with_reducible assumption) (by with_reducible assumption) (by with_reducible assumption) (by with_reducible assumption) (by with_reducible assumption) (by with_reducible assumption)); (case e2 => k_asm); (case e3 => first | k_asm | exact cb_drop (by with_reducible assumption) (by kcj_all)); (case e4 => exact allLt_mem (And.right (by assumption))))))
end
end Mine
end PartB3

local macro_rules | `(tactic| walk_at "no key") => `(tactic| fail)
local macro_rules | `(tactic| walk_at "no key") => `(tactic| fail)
local macro_rules | `(tactic| walk_at "no key") => `(tactic| fail)
local macro_rules | `(tactic| walk_at "no key") => `(tactic| fail)
section PartB4
open PySem PySem.W PyProof.Rows PySem.Calls PySem.Spec
set_option linter.all false
namespace Mine
theorem fill4 : ∀ w h, (Mine.hd.heap_39 w).In h → PySem.Challenge.rw_bq5007_01.row.prog = PySem.Challenge.rw_bq5007_01.row.prog := by
  k_fill
  intros; rfl
section
variable {pt : Program} {w : World} {mean : ExcName → Option Value} {mg mb : Str → Option Value} {dp un : Nat} {gd : Option (List Code)} {cn : Str} {cs : Scope} {a : Addr} {ccd : Value} {cl : List (Str × Addr)} {outer : List Env} {A₀ : Around} {base h₀ : Heap} {L : Addr} {m : Str → Option Value} {news : List (Addr × Obj)} {s : Shared} {Q E : Value → Shared → Prop} {loose : List Str}
theorem news_cons {h₀ h : Heap} {L : Addr} {news : List (Addr × Obj)} {p : Addr × Obj} (N : News h₀ L h news) (hm : p ∈ news) : News h₀ L h (p :: news) := fun q hq => (List.mem_cons.mp hq).elim (fun e => e ▸ N _ hm) (N q)
def fullV (i : Int) (o : Option Int) : Int := i - o.getD 0
set_option maxRecDepth 100000 in
set_option maxHeartbeats 8000000 in
theorem full_call 
  {D : Addr} {i : Int} {o : Option Int} {t1 t2 : Tok} (hm : (D, dueObj i o t1 t2) ∈ news)
  (B : Below A₀ base outer h₀) (F : Fr h₀ L s.heap m) (X : (Mine.hd.heap_39 w.params).In h₀) (N : News h₀ L s.heap news) (T : Top pt loose mean mg mb h₀) (hk : cs.kind = .function) (hd : dp + 1 < recursionLimit) (hu : un + 8 < cLine)
  (hret : ∀ t h' tk', Fr h₀ L h' m → News h₀ L h' news → Q (.int (fullV i o) t) { s with heap := h', toks := tk' }) :
  wpAny (model PySem.Challenge.rw_bq5007_01.row.prog w) (ktrTop dp un gd cn cs L a ccd cl outer) (call (.ref 330) [.ref D]) Q E s := by
  replace N := news_cons N hm
  clear hm
  cases o <;> simp only [dueObj, optV] at N <;>
  w_strict (
    w_top off
    refine wpAny_call ?_
    k_dflt cell_enter
    k_steps
    all_goals (refine cb_retI (Q := Q) (s := s) hret ?e1 ?e2 ?e3; (case e2 => k_asm); (case e3 => first | k_asm | exact cb_drop (by with_reducible assumption) (by kcj_all)); (case e1 => unfold fullV; simp only [Option.getD] <;> omega)))
end
end Mine
end PartB4

local macro_rules | `(tactic| walk_at "no key") => `(tactic| fail)
section PartB6
open PySem PySem.W PyProof.Rows PySem.Calls PySem.Spec
set_option linter.all false
namespace Mine
theorem fill7 : ∀ w h, (Mine.hd.heap_39 w).In h → PySem.Challenge.rw_bq5007_01.row.prog = PySem.Challenge.rw_bq5007_01.row.prog := by
  k_fill
  intros; rfl
section
variable {pt : Program} {w : World} {mean : ExcName → Option Value} {mg mb : Str → Option Value} {dp un : Nat} {gd : Option (List Code)} {cn : Str} {cs : Scope} {a : Addr} {ccd : Value} {cl : List (Str × Addr)} {outer : List Env} {A₀ : Around} {base h₀ : Heap} {L : Addr} {m : Str → Option Value} {news : List (Addr × Obj)} {s : Shared} {Q E : Value → Shared → Prop} {loose : List Str}
end
theorem negText {n : Int} (h : n < 0) : (Str.ofString (toString n)).cps.toList = 45 :: (Str.ofString (toString ((n.natAbs : Nat) : Int))).cps.toList := by
  rw [KIN.signs_num]
  cases n with
  | ofNat k => exact absurd h (Int.not_lt.mpr (Int.natCast_nonneg k))
  | negSucc k =>
    rw [signs_ofString]
    show (("-" ++ Nat.repr (k + 1)).toList.map Char.toNat) = 45 :: ((Nat.toDigits 10 (k + 1)).map Char.toNat)
    rw [String.toList_append, Nat.toList_repr, List.map_append]
    rfl
theorem lenText {n : Int} (h1 : -1000 ≤ n) (h2 : n ≤ 1000) : (Str.ofString (toString n)).length ≤ 11 := by
  by_cases h : n < 0
  · have e := negText h
    have e2 : (Str.ofString (toString n)).length = (Str.ofString (toString ((n.natAbs : Nat) : Int))).length + 1 := by
      have := congrArg List.length e
      simpa [Str.length] using this
    have := toString_length_le (v := ((n.natAbs : Nat) : Int)) (k := 10) (by omega) (by decide) (by omega)
    omega
  · have := toString_length_le (v := n) (k := 10) (by omega) (by decide) (by omega)
    omega
section
open Builtin Builtin.Str
variable {M : Model} {A : Around} {E : Value → Shared → Prop} {s : Shared} {l : List Nat} {p : List Value} {r : List Nat}
  {f : Nat → List Value × Writer × List Nat → Sem (ForInStep (List Value × Writer × List Nat))} {Q : List Value × Writer × List Nat → Shared → Prop}
  {w : Writer} {T x y : PySem.Str} {N K : Nat} {o : Option Value}
theorem after_intN {c : Percent} {n : Int} {d : List Nat} (g : KPc.Good w T N) (h1 : c.alt = false) (h2 : c.type = 100 ∨ c.type = 105 ∨ c.type = 117) (h3 : c.prec = none) (hn : -1000 ≤ n) (hm : n ≤ 1000)
    (hd : d = (PySem.Str.ofString (toString ((n.natAbs : Nat) : Int))).cps.toList) (ho : o = none) (h : ∀ w', KPc.Good w' (T ++ PySem.Str.ofString (toString n)) (N + 11) → wpAny M A (forIn l (p, w', r) f) Q E s) :
    wpAny M A (forIn l (p, w.add ⟨(percentInt c (decide (n < 0)) d).toArray⟩ o, r) f) Q E s := by
  have e : percentInt c (decide (n < 0)) d = (PySem.Str.ofString (toString n)).cps.toList := by
    by_cases hneg : n < 0
    · rw [negText hneg, hd, decide_eq_true hneg]
      unfold percentInt
      rcases h2 with h2 | h2 | h2 <;> simp [h1, h2, h3]
    · have en : ((n.natAbs : Nat) : Int) = n := Int.natAbs_of_nonneg (by omega)
      rw [KPc.int_text c h1 h2 h3 (by omega), hd, en]
  rw [e]
  exact KPc.after_str g (lenText hn hm) (KPc.obj_none ho) h
theorem after_intN0 {c : Percent} {n : Int} {d : List Nat} (g : KPc.Good w PySem.Str.empty N) (h1 : c.alt = false) (h2 : c.type = 100 ∨ c.type = 105 ∨ c.type = 117) (h3 : c.prec = none) (hn : -1000 ≤ n) (hm : n ≤ 1000)
    (hd : d = (PySem.Str.ofString (toString ((n.natAbs : Nat) : Int))).cps.toList) (ho : o = none) (h : ∀ w', KPc.Good w' (PySem.Str.ofString (toString n)) (N + 11) → wpAny M A (forIn l (p, w', r) f) Q E s) :
    wpAny M A (forIn l (p, w.add ⟨(percentInt c (decide (n < 0)) d).toArray⟩ o, r) f) Q E s :=
  after_intN g h1 h2 h3 hn hm hd ho fun w' g' => h w' (by rw [KPc.empty_app] at g'; exact g')
end
def shownV (i : Int) (o : Option Int) : Str := if o.getD 0 = 0 then Str.ofString (toString i) else Str.ofString (toString i) ++ Str.ofString "/" ++ Str.ofString (toString (o.getD 0))
local macro_rules | `(tactic| kpc_piece) => `(tactic| first
  | (refine after_intN0 (by kpc_g) rfl (by kpc_kind) rfl (by with_reducible assumption) (by with_reducible assumption) rfl (by kpc_none) ?_; intro _ _)
  | (refine after_intN (by kpc_g) rfl (by kpc_kind) rfl (by with_reducible assumption) (by with_reducible assumption) rfl (by kpc_none) ?_; intro _ _))
local macro_rules | `(tactic| kpt_piece) => `(tactic| first
  | (refine after_intN0 (by kpc_g) rfl (by kpc_kind) rfl (by with_reducible assumption) (by with_reducible assumption) rfl (by kpc_none) ?_; intro _ _)
  | (refine after_intN (by kpc_g) rfl (by kpc_kind) rfl (by with_reducible assumption) (by with_reducible assumption) rfl (by kpc_none) ?_; intro _ _))
theorem mod_intB {prog : Program} {w : World} {A : Around} {E : Value → Shared → Prop} {s : Shared} {X X' : PySem.Str} {n : Int} {t u : Tok} {Q : Value → Shared → Prop} {T : Int → PySem.Str} (hX : X = X') (hn0 : -1000 ≤ n) (hn1 : n ≤ 1000)
    (hm : ∀ i : Int, -1000 ≤ i → i ≤ 1000 → i.natAbs.log2 < 1920 → ((i.natAbs : Nat) : Int).natAbs.log2 < 1920 → Meets (Builtin.«str.__mod__» ⟨[.str X' t, .int i u], []⟩) (fun _ R s => ∀ t' k, R (.ok (.ret (.str (T i) t'))) { s with toks := k }))
    (h : ∀ t' k, Q (.str (T n) t') { s with toks := k }) : wpAny (model prog w) A (binaryOp .Mod (.str X t) (.int n u)) Q E s :=
  KPc.mod_lit hX (shown (N := 2 ^ 1920) (by omega) (by omega) (Int.le_refl _)) (hm n hn0 hn1) h
local macro_rules | `(tactic| walk_at "binaryOp Mod str int") => `(tactic| (k_here; (with_reducible show wpAny _ _ (binaryOp Operator.Mod (Value.str _ _) (Value.int _ _)) _ _ _); (refine' mod_intB ?kpcF ?kpcl ?kpch ?kpcm ?_; (case kpcF => kpc_eq); (case kpcl => with_reducible assumption); (case kpch => with_reducible assumption); (case kpcm => k_dflt kpc_run)); intro _ _))
section
variable {pt : Program} {w : World} {mean : ExcName → Option Value} {mg mb : Str → Option Value} {dp un : Nat} {gd : Option (List Code)} {cn : Str} {cs : Scope} {a : Addr} {ccd : Value} {cl : List (Str × Addr)} {outer : List Env} {A₀ : Around} {base h₀ : Heap} {L : Addr} {m : Str → Option Value} {news : List (Addr × Obj)} {s : Shared} {Q E : Value → Shared → Prop} {loose : List Str}
set_option maxRecDepth 100000 in
set_option maxHeartbeats 8000000 in
theorem str_call 
  {D fd : Addr} {i : Int} {o : Option Int} {t1 t2 : Tok} {e1 e2 e3 : DictEntry} {n : Nat} {f : Int} {k1 k2 k3 t3 : Tok}
  (B : Below A₀ base outer h₀) (F : Fr h₀ L s.heap m) (X : (Mine.hd.heap_39 w.params).In h₀) (N : News h₀ L s.heap ((D, instObj 176 fd) :: (fd, dictOf [⟨PyData.keyHash w.params (Str.ofString "all_replicas"), .str (Str.ofString "all_replicas") k1, .int i t1⟩, ⟨PyData.keyHash w.params (Str.ofString "transient_replicas"), .str (Str.ofString "transient_replicas") k2, optV o t2⟩, ⟨PyData.keyHash w.params (Str.ofString "full_replicas"), .str (Str.ofString "full_replicas") k3, .int f t3⟩] 3) :: news)) (T : Top pt loose mean mg mb h₀) (hk : cs.kind = .function) (hd : dp + 1 < recursionLimit) (hu : un + 8 < cLine)
  (hi1 : -1000 ≤ i) (hi2 : i ≤ 1000) (ho : ∀ b, o = some b → -1000 ≤ b ∧ b ≤ 1000)
  (hret : ∀ t h' tk', Fr h₀ L h' m → News h₀ L h' ((D, instObj 176 fd) :: (fd, dictOf [⟨PyData.keyHash w.params (Str.ofString "all_replicas"), .str (Str.ofString "all_replicas") k1, .int i t1⟩, ⟨PyData.keyHash w.params (Str.ofString "transient_replicas"), .str (Str.ofString "transient_replicas") k2, optV o t2⟩, ⟨PyData.keyHash w.params (Str.ofString "full_replicas"), .str (Str.ofString "full_replicas") k3, .int f t3⟩] 3) :: news) → Q (.str (shownV i o) t) { s with heap := h', toks := tk' }) :
  wpAny (model PySem.Challenge.rw_bq5007_01.row.prog w) (ktrTop dp un gd cn cs L a ccd cl outer) (call (.ref 166) [.ref D]) Q E s := by
  cases o with
  | none => 
    simp only [optV] at N
    w_strict (
    w_top off
    refine wpAny_call ?_
    k_dflt cell_enter
    k_steps
    all_goals (refine cb_retS (Q := Q) (s := s) hret ?e1 ?e2 ?e3; (case e2 => k_asm); (case e3 => first | k_asm | exact cb_drop (by with_reducible assumption) (by kcj_all)); (case e1 => unfold shownV; simp only [Option.getD]; simp [*])))
  | some b =>
    have hb1 := (ho b rfl).1
    have hb2 := (ho b rfl).2
    simp only [optV] at N
    w_strict (
    refine wpAny_call ?_
    k_dflt cell_enter
    k_steps
    all_goals (refine cb_retS (Q := Q) (s := s) hret ?e1 ?e2 ?e3; (case e2 => k_asm); (case e3 => first | k_asm | exact cb_drop (by with_reducible assumption) (by kcj_all)); (case e1 => unfold shownV; simp only [Option.getD]; simp [*])))
end
end Mine
end PartB6

local macro_rules | `(tactic| walk_at "no key") => `(tactic| fail)
local macro_rules | `(tactic| walk_at "no key") => `(tactic| fail)
section PartB5
open PySem PySem.W PyProof.Rows PySem.Calls PySem.Spec
set_option linter.all false
namespace Mine
theorem fill5 : ∀ w h, (Mine.hd.heap_39 w).In h → PySem.Challenge.rw_bq5007_01.row.prog = PySem.Challenge.rw_bq5007_01.row.prog := by
  k_fill
  intros; rfl
section
variable {pt : Program} {w : World} {mean : ExcName → Option Value} {mg mb : Str → Option Value} {dp un : Nat} {gd : Option (List Code)} {cn : Str} {cs : Scope} {a : Addr} {ccd : Value} {cl : List (Str × Addr)} {outer : List Env} {A₀ : Around} {base h₀ : Heap} {L : Addr} {m : Str → Option Value} {news : List (Addr × Obj)} {s : Shared} {Q E : Value → Shared → Prop} {loose : List Str}
theorem news_cons5 {h₀ h : Heap} {L : Addr} {news : List (Addr × Obj)} {p : Addr × Obj} (N : News h₀ L h news) (hm : p ∈ news) : News h₀ L h (p :: news) := fun q hq => (List.mem_cons.mp hq).elim (fun e => e ▸ N _ hm) (N q)
set_option maxRecDepth 100000 in
set_option maxHeartbeats 8000000 in
theorem shown_call 
  {D : Addr} {i : Int} {o : Option Int} {t1 t2 : Tok} (hm : (D, dueObj i o t1 t2) ∈ news)
  (B : Below A₀ base outer h₀) (F : Fr h₀ L s.heap m) (X : (Mine.hd.heap_39 w.params).In h₀) (N : News h₀ L s.heap news) (T : Top pt loose mean mg mb h₀) (hk : cs.kind = .function) (hd : dp + 1 < recursionLimit) (hu : un + 8 < cLine)
  (hi1 : -1000 ≤ i) (hi2 : i ≤ 1000) (ho : ∀ b, o = some b → -1000 ≤ b ∧ b ≤ 1000)
  (hret : ∀ t h' tk', Fr h₀ L h' m → News h₀ L h' news → Q (.str (shownV i o) t) { s with heap := h', toks := tk' }) :
  wpAny (model PySem.Challenge.rw_bq5007_01.row.prog w) (ktrTop dp un gd cn cs L a ccd cl outer) (call (.ref 337) [.ref D]) Q E s := by
  replace N := news_cons5 N hm
  clear hm
  cases o with
  | none => 
    simp only [dueObj, optV] at N
    w_strict (
    w_top off
    refine wpAny_call ?_
    k_dflt cell_enter
    k_steps
    all_goals (refine cb_retS (Q := Q) (s := s) hret ?e1 ?e2 ?e3; (case e2 => k_asm); (case e3 => first | k_asm | exact cb_drop (by with_reducible assumption) (by kcj_all)); (case e1 => unfold shownV; simp only [Option.getD]; simp [*])))
  | some b =>
    have hb := ho b rfl
    simp only [dueObj, optV] at N
    w_strict (
    refine wpAny_call ?_
    k_dflt cell_enter
    k_steps
    all_goals (refine cb_retS (Q := Q) (s := s) hret ?e1 ?e2 ?e3; (case e2 => k_asm); (case e3 => first | k_asm | exact cb_drop (by with_reducible assumption) (by kcj_all)); (case e1 => unfold shownV; simp only [Option.getD]; simp [*])))
end
end Mine
end PartB5

local macro_rules | `(tactic| walk_at "no key") => `(tactic| fail)
section PartB7
open PySem PySem.W PyProof.Rows PySem.Calls PySem.Spec
set_option linter.all false
namespace Mine
theorem fill8 : ∀ w h, (Mine.hd.heap_39 w).In h → PySem.Challenge.rw_bq5007_01.row.prog = PySem.Challenge.rw_bq5007_01.row.prog := by
  k_fill
  intros; rfl
section
variable {pt : Program} {w : World} {mean : ExcName → Option Value} {mg mb : Str → Option Value} {dp un : Nat} {gd : Option (List Code)} {cn : Str} {cs : Scope} {a : Addr} {ccd : Value} {cl : List (Str × Addr)} {outer : List Env} {A₀ : Around} {base h₀ : Heap} {L : Addr} {m : Str → Option Value} {news : List (Addr × Obj)} {s : Shared} {Q E : Value → Shared → Prop} {loose : List Str}
local macro_rules | `(tactic| walk_at "call ref") => `(tactic| (k_here; (with_reducible show wpAny _ (ktrTop _ _ _ _ _ _ _ _ _ _) (call (Value.ref 176) _) _ _ _); k_dflt (refine' call_cls ?k1 ?k2 ?k3 ?k4 ?k5 ?k6 ?_; (case k1 => k_asm); (case k2 => k_asm); (case k3 => k_asm); (case k4 => k_is); (case k5 => k_is); (case k6 => k_is); k_whole; intro x' d' h' F' N' l1 l2; (try k_lt l1); (try k_lt2 l2); (try k_sweep); (refine' code_def ?k1 ?k2 ?k3 ?k4 ?k5 ?kA ?kF ?kK ?k6 ?k7 ?k8 ?k9 ?kB ?_ ?c2 ?c3 ?c4 ?c5); (case kA => exact rfl); (case kF => exact rfl); (case kK => assumption); (case k1 => k_asm); (case k2 => k_asm); (case k3 => k_asm); (case k4 => k_asm); (case k5 => k_asm); (case k6 => k_is); (case k7 => k_is); (case k8 => ktr_room); (case k9 => first | exact BindsTo.of_eq rfl | exact binds_K (by k_in) rfl (by k_is) rfl rfl rfl); (case c5 => decide); (case kB => exact locs rfl); (case c2 => exact rfl); (case c3 => exact rfl); (case c4 => exact rfl); k_whole; intro g' L' h' FG' F' N' B' X' T'; (try dsimp only); (try k_lift B'); (try k_fold))))
def rfD (P : Params) (i : Int) (o : Option Int) (k1 k2 k3 t1 t2 t3 : Tok) : Obj := dictOf [⟨PyData.keyHash P (Str.ofString "all_replicas"), .str (Str.ofString "all_replicas") k1, .int i t1⟩, ⟨PyData.keyHash P (Str.ofString "transient_replicas"), .str (Str.ofString "transient_replicas") k2, optV o t2⟩, ⟨PyData.keyHash P (Str.ofString "full_replicas"), .str (Str.ofString "full_replicas") k3, .int (fullV i o) t3⟩] 3
theorem news_rf {P : Params} {i f : Int} {o : Option Int} {k1 k2 k3 t1 t2 t3 : Tok} {h : Heap} {x fd : Addr} (N : News h₀ L h ((x, instObj 176 fd) :: (fd, dictOf [⟨PyData.keyHash P (Str.ofString "all_replicas"), .str (Str.ofString "all_replicas") k1, .int i t1⟩, ⟨PyData.keyHash P (Str.ofString "transient_replicas"), .str (Str.ofString "transient_replicas") k2, optV o t2⟩, ⟨PyData.keyHash P (Str.ofString "full_replicas"), .str (Str.ofString "full_replicas") k3, .int f t3⟩] 3) :: news)) (e : f = fullV i o) :
    News h₀ L h ((x, instObj 176 fd) :: (fd, rfD P i o k1 k2 k3 t1 t2 t3) :: news) := by subst e; exact N
set_option maxRecDepth 100000 in
set_option maxHeartbeats 8000000 in
theorem new_call 
  {i : Int} {o : Option Int} {t1 t2 : Tok}
  (B : Below A₀ base outer h₀) (F : Fr h₀ L s.heap m) (X : (Mine.hd.heap_39 w.params).In h₀) (N : News h₀ L s.heap news) (T : Top pt loose mean mg mb h₀) (hk : cs.kind = .function) (hd : dp + 2 < recursionLimit) (hu : un + 16 < cLine)
  (hret : ∀ x fd k1 k2 k3 t3 h' tk', Fr h₀ L h' m → News h₀ L h' ((x, instObj 176 fd) :: (fd, rfD w.params i o k1 k2 k3 t1 t2 t3) :: news) → (∀ p ∈ news, p.1 < fd) → fd < x → Q (.ref x) { s with heap := h', toks := tk' }) :
  wpAny (model PySem.Challenge.rw_bq5007_01.row.prog w) (ktrTop dp un gd cn cs L a ccd cl outer) (call (.ref 176) [.int i t1, optV o t2]) Q E s := by
  cases o <;> simp only [optV] <;>
  w_strict (
    w_top off
    k_steps
    all_goals (refine' hret _ _ _ _ _ _ _ _ ?e1 ?e2 ?e3 ?e4; (case e1 => k_asm); (case e2 => refine' news_rf ?N ?e; (case N => k_asm); (case e => simp [fullV, *])); (case e3 => first | assumption | exact allLt_mem (by assumption)); (case e4 => assumption)))
end
end Mine
end PartB7

local macro_rules | `(tactic| walk_at "no key") => `(tactic| fail)
local macro_rules | `(tactic| walk_at "no key") => `(tactic| fail)
section PartB8
open PySem PySem.W PyProof.Rows PySem.Calls PySem.Spec
set_option linter.all false
namespace Mine
theorem fill9 : ∀ w h, (Mine.hd.heap_39 w).In h → PySem.Challenge.rw_bq5007_01.row.prog = PySem.Challenge.rw_bq5007_01.row.prog := by
  k_fill
  intros; rfl
section
variable {pt : Program} {w : World} {mean : ExcName → Option Value} {mg mb : Str → Option Value} {dp un : Nat} {gd : Option (List Code)} {cn : Str} {cs : Scope} {a : Addr} {ccd : Value} {cl : List (Str × Addr)} {outer : List Env} {A₀ : Around} {base h₀ : Heap} {L : Addr} {m : Str → Option Value} {news : List (Addr × Obj)} {s : Shared} {Q E : Value → Shared → Prop} {loose : List Str}
theorem ns_some_of {K : Frag} {h : Heap} {N : Addr} {mg : Str → Option Value} {n : Str} {v : Value} (X : K.In h) (G : h.Ns N mg) (e : nsIn K N n = some (some v)) : mg n = some v := by
  obtain ⟨o, es, ep, ho, hd, _, hf⟩ := G
  unfold nsIn at e
  split at e
  · rename_i c d es' n' sl q
    have := X _ _ q
    rw [ho] at this
    cases this
    cases hd
    split at e
    · rename_i en he
      cases e
      rw [← hf]
      unfold nsFind findBy
      rw [← Array.find?_toList, he]
      rfl
    · split at e <;> cases e
  · cases e
theorem own_ne {P : Params} {h : Heap} (X : (Mine.hd.heap_39 P).In h) {x : Addr} {o : Obj} (hx : h.get? x = some o) (hc : o.cls = .ref 176) : h.OwnEqNoNe x 176 173 "object" [.type "object"] := by
  have hn : h.Ns 175 (h.nsMap 175) := .of_isNs (isNs_of_in X (by kernel_rfl))
  have hT : typeIn (Mine.hd.heap_39 P) (.ref 173) = some (.type "function") := by k_is
  have h173 : ∃ o', h.get? 173 = some o' ∧ o'.cls = .type "function" := by
    unfold typeIn at hT
    dsimp only at hT
    rw [Option.map_eq_some_iff] at hT
    obtain ⟨o', h1, h2⟩ := hT
    exact ⟨o', X _ _ h1, h2⟩
  obtain ⟨of, hf, hfc⟩ := h173
  have he := ns_some_of (n := "__eq__") (v := .ref 173) X hn (by k_is)
  have hne := nsMap_none_of_in (N := 175) (x := "__ne__") X (by kernel_rfl) (by k_is)
  have hl : typeLookup (.type "object") "__eq__" = pure (some (.builtin "object.__eq__")) := by rw [typeLookup_type, builtinLookup_eq_fast]; kernel_rfl
  have h176 : h.get? 176 = some (excClassObj (Str.ofString "ReplicationFactor") (Str.ofString "ReplicationFactor") 176 175 [.type "object"] [.type "object"] true [] [] false none none (some (.ref 135)) none (some (.str (Str.ofString "ReplicationFactor") 358)) (some (.str (Str.ofString "ReplicationFactor") 366)) (some (.bool true)) "object.__new__") := X 176 _ (by k_is)
  exact ⟨o, of, _, _, 175, _, _, _, _, _, _, _, _, _, _, _, _, _, _, _, hx, hc, h176, hn, he, hf, hfc, F.cmp_object.mro, hl, hne⟩
local macro_rules | `(tactic| walk_at "call ref") => `(tactic| (k_here; (with_reducible show wpAny _ _ (call (Value.ref 173) _) _ _ _); refine wpAny_call ?_; k_dflt cell_enter))
def eqV (i : Int) (o : Option Int) (j : Int) (p : Option Int) : Bool := decide (i = j ∧ fullV i o = fullV j p)
set_option maxRecDepth 100000 in
set_option maxHeartbeats 8000000 in
theorem eqfn_rf
  {x y fx fy : Addr} {i j : Int} {o p : Option Int} {k1 k2 k3 t1 t2 t3 k1' k2' k3' t1' t2' t3' : Tok}
  (B : Below A₀ base outer h₀) (F : Fr h₀ L s.heap m) (X : (Mine.hd.heap_39 w.params).In h₀) (N : News h₀ L s.heap news)
  (m1 : (x, instObj 176 fx) ∈ news) (m2 : (fx, rfD w.params i o k1 k2 k3 t1 t2 t3) ∈ news) (m3 : (y, instObj 176 fy) ∈ news) (m4 : (fy, rfD w.params j p k1' k2' k3' t1' t2' t3') ∈ news) (T : Top pt loose mean mg mb h₀) (hk : cs.kind = .function) (hd : dp + 2 < recursionLimit) (hu : un + 16 < cLine)
  (hret : ∀ (_ : Tok) h' tk', Fr h₀ L h' m → News h₀ L h' news → Q (.bool (eqV i o j p)) { s with heap := h', toks := tk' }) :
  wpAny (model PySem.Challenge.rw_bq5007_01.row.prog w) (ktrTop dp un gd cn cs L a ccd cl outer) (call (.ref 173) [.ref x, .ref y]) Q E s := by
  replace N := news_cons (news_cons (news_cons (news_cons N m1) (.tail _ m2)) (.tail _ (.tail _ m3))) (.tail _ (.tail _ (.tail _ m4)))
  unfold rfD at N
  clear m1 m2 m3 m4
  generalize hf : fullV i o = f at *
  generalize hg : fullV j p = g at *
  w_strict (
    w_top off
    k_steps
    all_goals (refine cb_retB (Q := Q) (s := s) hret ?e1 ?e2 ?e3; (case e2 => k_asm); (case e3 => first | k_asm | exact cb_drop (by with_reducible assumption) (by kcj_all)); (case e1 => unfold eqV; rw [hf, hg]; first | (simp [*]; done) | (simp [*]; rfl))))
set_option maxRecDepth 100000 in
set_option maxHeartbeats 8000000 in
theorem eqfn_str
  {x fx : Addr} {i : Int} {o : Option Int} {k1 k2 k3 t1 t2 t3 : Tok} {b : Str} {u : Tok}
  (B : Below A₀ base outer h₀) (F : Fr h₀ L s.heap m) (X : (Mine.hd.heap_39 w.params).In h₀) (N : News h₀ L s.heap news)
  (m1 : (x, instObj 176 fx) ∈ news) (m2 : (fx, rfD w.params i o k1 k2 k3 t1 t2 t3) ∈ news) (T : Top pt loose mean mg mb h₀) (hk : cs.kind = .function) (hd : dp + 2 < recursionLimit) (hu : un + 16 < cLine)
  (hret : ∀ (_ : Tok) h' tk', Fr h₀ L h' m → News h₀ L h' news → Q (.bool false) { s with heap := h', toks := tk' }) :
  wpAny (model PySem.Challenge.rw_bq5007_01.row.prog w) (ktrTop dp un gd cn cs L a ccd cl outer) (call (.ref 173) [.ref x, .str b u]) Q E s := by
  replace N := news_cons (news_cons N m1) (.tail _ m2)
  unfold rfD at N
  clear m1 m2
  w_strict (
    k_steps
    all_goals (refine cb_retB (Q := Q) (s := s) hret ?e1 ?e2 ?e3; (case e2 => k_asm); (case e3 => first | k_asm | exact cb_drop (by with_reducible assumption) (by kcj_all)); (case e1 => rfl)))
set_option maxRecDepth 100000 in
set_option maxHeartbeats 8000000 in
theorem eqfn_int
  {x fx : Addr} {i : Int} {o : Option Int} {k1 k2 k3 t1 t2 t3 : Tok} {b : Int} {u : Tok}
  (B : Below A₀ base outer h₀) (F : Fr h₀ L s.heap m) (X : (Mine.hd.heap_39 w.params).In h₀) (N : News h₀ L s.heap news)
  (m1 : (x, instObj 176 fx) ∈ news) (m2 : (fx, rfD w.params i o k1 k2 k3 t1 t2 t3) ∈ news) (T : Top pt loose mean mg mb h₀) (hk : cs.kind = .function) (hd : dp + 2 < recursionLimit) (hu : un + 16 < cLine)
  (hret : ∀ (_ : Tok) h' tk', Fr h₀ L h' m → News h₀ L h' news → Q (.bool false) { s with heap := h', toks := tk' }) :
  wpAny (model PySem.Challenge.rw_bq5007_01.row.prog w) (ktrTop dp un gd cn cs L a ccd cl outer) (call (.ref 173) [.ref x, .int b u]) Q E s := by
  replace N := news_cons (news_cons N m1) (.tail _ m2)
  unfold rfD at N
  clear m1 m2
  w_strict (
    k_steps
    all_goals (refine cb_retB (Q := Q) (s := s) hret ?e1 ?e2 ?e3; (case e2 => k_asm); (case e3 => first | k_asm | exact cb_drop (by with_reducible assumption) (by kcj_all)); (case e1 => rfl)))
/- the operators -/
theorem ktr_in1 : (ktrTop dp un gd cn cs L a ccd cl outer).in1 = ktrTop dp (un + 1) gd cn cs L a ccd cl outer := rfl
section
variable {x y fx fy : Addr} {i j : Int} {o p : Option Int} {k1 k2 k3 t1 t2 t3 k1' k2' k3' t1' t2' t3' : Tok}
theorem eq_rf
  (B : Below A₀ base outer h₀) (F : Fr h₀ L s.heap m) (X : (Mine.hd.heap_39 w.params).In h₀) (N : News h₀ L s.heap news)
  (m1 : (x, instObj 176 fx) ∈ news) (m2 : (fx, rfD w.params i o k1 k2 k3 t1 t2 t3) ∈ news) (m3 : (y, instObj 176 fy) ∈ news) (m4 : (fy, rfD w.params j p k1' k2' k3' t1' t2' t3') ∈ news) (T : Top pt loose mean mg mb h₀) (hk : cs.kind = .function) (hd : dp + 2 < recursionLimit) (hu : un + 16 < cLine)
  (hret : ∀ h' tk', Fr h₀ L h' m → News h₀ L h' news → Q (.bool (eqV i o j p)) { s with heap := h', toks := tk' }) :
  wpAny (model PySem.Challenge.rw_bq5007_01.row.prog w) (ktrTop dp un gd cn cs L a ccd cl outer) (compareOp .Eq (.ref x) (.ref y)) Q E s := by
  refine cmp_ofEq ?_
  refine' cmp_K (f := 173) ?k1 F X (InstAt.of_news N m1 m2) (InstAt.of_news N m3 m4).type ?k6 ?k7 ?k8 ?_
  case k1 => exact Nat.lt_of_le_of_lt (Nat.le_add_right un 16) hu
  case k6 => k_is
  case k7 => k_is
  case k8 => k_is
  exact eqfn_rf B F X N m1 m2 m3 m4 T hk hd hu fun _ h' tk' F' N' => hret h' tk' F' N'
theorem eq_str {b : Str} {u : Tok}
  (B : Below A₀ base outer h₀) (F : Fr h₀ L s.heap m) (X : (Mine.hd.heap_39 w.params).In h₀) (N : News h₀ L s.heap news)
  (m1 : (x, instObj 176 fx) ∈ news) (m2 : (fx, rfD w.params i o k1 k2 k3 t1 t2 t3) ∈ news) (T : Top pt loose mean mg mb h₀) (hk : cs.kind = .function) (hd : dp + 2 < recursionLimit) (hu : un + 16 < cLine)
  (hret : ∀ h' tk', Fr h₀ L h' m → News h₀ L h' news → Q (.bool false) { s with heap := h', toks := tk' }) :
  wpAny (model PySem.Challenge.rw_bq5007_01.row.prog w) (ktrTop dp un gd cn cs L a ccd cl outer) (compareOp .Eq (.ref x) (.str b u)) Q E s := by
  refine cmp_ofEq ?_
  refine' cmp_K (f := 173) (tb := .type "str") ?k1 F X (InstAt.of_news N m1 m2) (Looks.of_pure rfl) ?k6 ?k7 ?k8 ?_
  case k1 => exact Nat.lt_of_le_of_lt (Nat.le_add_right un 16) hu
  case k6 => k_is
  case k7 => k_is
  case k8 => k_is
  exact eqfn_str B F X N m1 m2 T hk hd hu fun _ h' tk' F' N' => hret h' tk' F' N'
theorem eq_int {b : Int} {u : Tok}
  (B : Below A₀ base outer h₀) (F : Fr h₀ L s.heap m) (X : (Mine.hd.heap_39 w.params).In h₀) (N : News h₀ L s.heap news)
  (m1 : (x, instObj 176 fx) ∈ news) (m2 : (fx, rfD w.params i o k1 k2 k3 t1 t2 t3) ∈ news) (T : Top pt loose mean mg mb h₀) (hk : cs.kind = .function) (hd : dp + 2 < recursionLimit) (hu : un + 16 < cLine)
  (hret : ∀ h' tk', Fr h₀ L h' m → News h₀ L h' news → Q (.bool false) { s with heap := h', toks := tk' }) :
  wpAny (model PySem.Challenge.rw_bq5007_01.row.prog w) (ktrTop dp un gd cn cs L a ccd cl outer) (compareOp .Eq (.ref x) (.int b u)) Q E s := by
  refine cmp_ofEq ?_
  refine' cmp_K (f := 173) (tb := .type "int") ?k1 F X (InstAt.of_news N m1 m2) (Looks.of_pure rfl) ?k6 ?k7 ?k8 ?_
  case k1 => exact Nat.lt_of_le_of_lt (Nat.le_add_right un 16) hu
  case k6 => k_is
  case k7 => k_is
  case k8 => k_is
  exact eqfn_int B F X N m1 m2 T hk hd hu fun _ h' tk' F' N' => hret h' tk' F' N'
theorem ne_rf
  (B : Below A₀ base outer h₀) (F : Fr h₀ L s.heap m) (X : (Mine.hd.heap_39 w.params).In h₀) (N : News h₀ L s.heap news)
  (m1 : (x, instObj 176 fx) ∈ news) (m2 : (fx, rfD w.params i o k1 k2 k3 t1 t2 t3) ∈ news) (m3 : (y, instObj 176 fy) ∈ news) (m4 : (fy, rfD w.params j p k1' k2' k3' t1' t2' t3') ∈ news) (T : Top pt loose mean mg mb h₀) (hk : cs.kind = .function) (hd : dp + 2 < recursionLimit) (hu : un + 17 < cLine)
  (hret : ∀ h' tk', Fr h₀ L h' m → News h₀ L h' news → Q (.bool (!eqV i o j p)) { s with heap := h', toks := tk' }) :
  wpAny (model PySem.Challenge.rw_bq5007_01.row.prog w) (ktrTop dp un gd cn cs L a ccd cl outer) (compareOp .NotEq (.ref x) (.ref y)) Q E s := by
  refine compareOp_ne_ownEq (C := 176) (f := 173) PySem.F.cmp_object (own_ne (X.keeps F.keep) (N.get m1) rfl) (N.get m3) rfl ?_ ?_
  · show un + 1 < cLine
    omega
  · exact eqfn_rf (un := un + 1) B F X N m1 m2 m3 m4 T hk hd (by omega) fun _ h' tk' F' N' => ⟨_, rfl, hret h' tk' F' N'⟩
end
end
end Mine
end PartB8

local macro_rules | `(tactic| walk_at "no key") => `(tactic| fail)
local macro_rules | `(tactic| walk_at "no key") => `(tactic| fail)
section PartB9
open PySem PySem.W PyProof.Rows PySem.Calls PySem.Spec
set_option linter.all false
namespace Mine
theorem fill10 : ∀ w h, (Mine.hd.heap_39 w).In h → PySem.Challenge.rw_bq5007_01.row.prog = PySem.Challenge.rw_bq5007_01.row.prog := by
  k_fill
  intros; rfl
section
variable {pt : Program} {w : World} {mean : ExcName → Option Value} {mg mb : Str → Option Value} {dp un : Nat} {gd : Option (List Code)} {cn : Str} {cs : Scope} {a : Addr} {ccd : Value} {cl : List (Str × Addr)} {outer : List Env} {A₀ : Around} {base h₀ : Heap} {L : Addr} {m : Str → Option Value} {news : List (Addr × Obj)} {s : Shared} {Q E : Value → Shared → Prop} {loose : List Str}
local macro_rules | `(tactic| ke_room) => `(tactic| ktr_units)
local macro_rules | `(tactic| k_units) => `(tactic| ktr_units)
local macro_rules | `(tactic| k_room) => `(tactic| ktr_room)
local macro_rules | `(tactic| walk_at "StrBack") => `(tactic| (k_dflt (dsimp only [StrBack]); (try k_fold)))
local macro_rules | `(tactic| walk_at "CmpBack") => `(tactic| (k_dflt (dsimp only [CmpBack]); (try k_fold)))
theorem str_call2
  {D fd : Addr} {i : Int} {o : Option Int} {t1 t2 k1 k2 k3 t3 : Tok}
  (B : Below A₀ base outer h₀) (F : Fr h₀ L s.heap m) (X : (Mine.hd.heap_39 w.params).In h₀) (N : News h₀ L s.heap news) (m1 : (D, instObj 176 fd) ∈ news) (m2 : (fd, rfD w.params i o k1 k2 k3 t1 t2 t3) ∈ news) (T : Top pt loose mean mg mb h₀) (hk : cs.kind = .function) (hd : dp + 1 < recursionLimit) (hu : un + 8 < cLine)
  (hi1 : -1000 ≤ i) (hi2 : i ≤ 1000) (ho : ∀ b, o = some b → -1000 ≤ b ∧ b ≤ 1000)
  (hret : ∀ t h' tk', Fr h₀ L h' m → News h₀ L h' news → Q (.str (shownV i o) t) { s with heap := h', toks := tk' }) :
  wpAny (model PySem.Challenge.rw_bq5007_01.row.prog w) (ktrTop dp un gd cn cs L a ccd cl outer) (call (.ref 166) [.ref D]) Q E s :=
  str_call (n := 0) (e1 := default) (e2 := default) (e3 := default) B F X (news_cons (news_cons N m2) (.tail _ m1)) T hk hd hu hi1 hi2 ho fun t h' tk' F' N' => hret t h' tk' F' fun p hp => N' p (.tail _ (.tail _ hp))
local macro_rules | `(tactic| walk_at "call ref") => `(tactic| (k_here; (with_reducible show wpAny _ _ (call (Value.ref 330) [Value.ref _]) _ _ _); k_dflt (first
  | (refine' full_call (o := none) (t2 := 0) ?km ?k1 ?k2 ?k3 ?k4 ?k5 ?kK ?kd ?ku ?_; (case k4 => k_asm); (case km => k_mem))
  | (refine' full_call (o := some _) ?km ?k1 ?k2 ?k3 ?k4 ?k5 ?kK ?kd ?ku ?_; (case k4 => k_asm); (case km => k_mem))); (case k1 => k_asm); (case k2 => k_asm); (case k3 => k_asm); (case k5 => k_asm); (case kK => exact rfl); (case kd => ktr_room); (case ku => ktr_units); k_dflt (all_goals (intros; (try dsimp only [StrBack, CmpBack]); (try dsimp only); (try k_fold)))))
local macro_rules | `(tactic| walk_at "call ref") => `(tactic| (k_here; (with_reducible show wpAny _ _ (call (Value.ref 337) [Value.ref _]) _ _ _); k_dflt (first
  | (refine' shown_call (o := none) (t2 := 0) ?km ?k1 ?k2 ?k3 ?k4 ?k5 ?kK ?kd ?ku ?kx ?ky ?kz ?_; (case k4 => k_asm); (case km => k_mem))
  | (refine' shown_call (o := some _) ?km ?k1 ?k2 ?k3 ?k4 ?k5 ?kK ?kd ?ku ?kx ?ky ?kz ?_; (case k4 => k_asm); (case km => k_mem))); (case k1 => k_asm); (case k2 => k_asm); (case k3 => k_asm); (case k5 => k_asm); (case kK => exact rfl); (case kd => ktr_room); (case ku => ktr_units); (case kx => with_reducible assumption); (case ky => with_reducible assumption); (case kz => with_reducible assumption); k_dflt (all_goals (intros; (try dsimp only [StrBack, CmpBack]); (try dsimp only); (try k_fold)))))
local macro_rules | `(tactic| walk_at "call ref") => `(tactic| (k_here; (with_reducible show wpAny _ _ (call (Value.ref 166) [Value.ref _]) _ _ _); k_dflt (first
  | (refine' str_call2 (o := none) (t2 := 0) ?k1 ?k2 ?k3 ?k4 ?m1 ?m2 ?k5 ?kK ?kd ?ku ?kx ?ky ?kz ?_; (case k4 => k_asm); (case m1 => k_mem); (case m2 => k_mem))
  | (refine' str_call2 (o := some _) ?k1 ?k2 ?k3 ?k4 ?m1 ?m2 ?k5 ?kK ?kd ?ku ?kx ?ky ?kz ?_; (case k4 => k_asm); (case m1 => k_mem); (case m2 => k_mem))); (case k1 => k_asm); (case k2 => k_asm); (case k3 => k_asm); (case k5 => k_asm); (case kK => exact rfl); (case kd => ktr_room); (case ku => ktr_units); (case kx => with_reducible assumption); (case ky => with_reducible assumption); (case kz => with_reducible assumption); k_dflt (all_goals (intros; (try dsimp only [StrBack, CmpBack]); (try dsimp only); (try k_fold)))))
local macro_rules | `(tactic| walk_at "call ref") => `(tactic| (k_here; (with_reducible show wpAny _ _ (call (Value.ref 176) [_, _]) _ _ _); k_dflt (first
  | (with_reducible show wpAny _ _ (call (Value.ref 176) [_, Value.none]) _ _ _; refine' new_call (o := none) (t2 := 0) ?k1 ?k2 ?k3 ?k4 ?k5 ?kK ?kd ?ku ?_)
  | (refine' new_call (o := some _) ?k1 ?k2 ?k3 ?k4 ?k5 ?kK ?kd ?ku ?_)); (case k1 => k_asm); (case k2 => k_asm); (case k3 => k_asm); (case k4 => k_asm); (case k5 => k_asm); (case kK => exact rfl); (case kd => ktr_room); (case ku => ktr_units); k_dflt (all_goals (intros; (try dsimp only [StrBack, CmpBack]); (try dsimp only); (try k_fold)))))
set_option maxRecDepth 100000 in
set_option maxHeartbeats 8000000 in
theorem told_call
  {x fx D : Addr} {i : Int} {o : Option Int} {k1 k2 k3 t1 t2 t3 u1 u2 : Tok}
  (B : Below A₀ base outer h₀) (F : Fr h₀ L s.heap m) (X : (Mine.hd.heap_39 w.params).In h₀) (N : News h₀ L s.heap news)
  (m1 : (x, instObj 176 fx) ∈ news) (m2 : (fx, rfD w.params i o k1 k2 k3 t1 t2 t3) ∈ news) (m3 : (D, dueObj i o u1 u2) ∈ news) (T : Top pt loose mean mg mb h₀) (hk : cs.kind = .function) (hd : dp + 4 < recursionLimit) (hu : un + 100 < cLine)
  (hi1 : -1000 ≤ i) (hi2 : i ≤ 1000) (ho : ∀ b, o = some b → -1000 ≤ b ∧ b ≤ 1000)
  (hret : ∀ (_ : Tok) h' tk', Fr h₀ L h' m → News h₀ L h' news → Q (.bool true) { s with heap := h', toks := tk' }) :
  wpAny (model PySem.Challenge.rw_bq5007_01.row.prog w) (ktrTop dp un gd cn cs L a ccd cl outer) (call (.ref 351) [.ref x, .ref D]) Q E s := by
  replace N := news_cons (news_cons (news_cons N m1) (.tail _ m2)) (.tail _ (.tail _ m3))
  clear m1 m2 m3
  cases o with
  | none =>
    simp only [dueObj, rfD, optV] at N
    w_strict (
    w_top off
    refine wpAny_call ?_
    k_dflt cell_enter
    k_steps
    all_goals (refine cb_retB (Q := Q) (s := s) hret ?e1 ?e2 ?e3; (case e2 => k_asm); (case e3 => first | k_asm | exact cb_drop (by with_reducible assumption) (by kcj_all)); (case e1 => simp [fullV])))
  | some b =>
    have hb := ho b rfl
    simp only [dueObj, rfD, optV] at N
    w_strict (
    refine wpAny_call ?_
    k_dflt cell_enter
    k_steps
    all_goals (refine cb_retB (Q := Q) (s := s) hret ?e1 ?e2 ?e3; (case e2 => k_asm); (case e3 => first | k_asm | exact cb_drop (by with_reducible assumption) (by kcj_all)); (case e1 => simp [fullV, *])))
end
end Mine
end PartB9

section PartC3
open PySem PySem.W PyProof.Rows PySem.Calls PySem.Spec
set_option linter.all false
namespace Mine
section
variable {M : Model} {A : Around} {E : Value → Shared → Prop} {s : Shared} {env : Env}
theorem C_nil {Q : Flow → Shared → Prop} (h : Q .next s) : wpC M A (execs [] env) Q E s := wpC_pure h
theorem C_cons {st rest} {Q : Flow → Shared → Prop}
    (h : wpC M A (exec st env) (fun f s' => match f with | .next => wpC M A (execs rest env) Q E s' | f => Q f s') E s) :
    wpC M A (execs (st :: rest) env) Q E s := by
  rw [execs_cons]
  refine wpC_bind (wpC_mono h (fun f s' h' => ?_) fun _ _ x => x)
  cases f <;> first | exact h' | exact wpC_pure h'
theorem C_last {st} {Q : Flow → Shared → Prop} (h : wpC M A (exec st env) Q E s) : wpC M A (execs [st] env) Q E s :=
  C_cons (wpC_mono h (fun f s' h' => by cases f <;> first | exact C_nil h' | exact h') fun _ _ x => x)
theorem A_cons {st rest} {Q : Flow → Shared → Prop}
    (h : wpAny M A (exec st env) (fun f s' => match f with | .next => wpC M A (execs rest env) Q E s' | f => Q f s') E s) :
    wpC M A (execs (st :: rest) env) Q E s := C_cons (wpC_of h)
theorem C_assign_name {x pos' value pos} {Q : Flow → Shared → Prop}
    (h : wpC M A (eval value env) (fun v s₁ => wpAny M A (storeName env x v) (fun _ => Q .next) E s₁) E s)
    (hs : swapsWith value (some (.Name x pos')) pos.line env = pure false := by rfl) :
    wpC M A (exec (.Assign [.Name x pos'] value pos) env) Q E s := by
  rw [exec_Assign_Name env x pos' value pos hs]
  refine wpC_bind (wpC_standAt (wpC_bind (wpC_mono h (fun v s₁ h₁ => ?_) fun _ _ x => x)))
  exact wpC_bind (wpC_standAt (wpC_cut (wpAny_bindName (wpAny_mono h₁ (fun _ s₂ h₂ => wpC_pure h₂) fun _ _ x => x))))
theorem C_assign_attr {o attr pos' value pos} {Q : Flow → Shared → Prop}
    (h : wpC M A (eval value env) (fun v s₁ => wpAny M A (eval o env) (fun ov s₂ => wpAny M A (setAttr ov attr v) (fun _ => Q .next) E s₂) E s₁) E s)
    (hs : swapsWith value (some (.Attribute o attr pos')) pos.line env = pure false := by rfl) :
    wpC M A (exec (.Assign [.Attribute o attr pos'] value pos) env) Q E s := by
  rw [plainObj_exec_Assign_Attribute o attr pos' value pos hs]
  refine wpC_bind (wpC_standAt (wpC_bind (wpC_mono h (fun v s₁ h₁ => ?_) fun _ _ x => x)))
  rw [assign_Attribute]
  refine wpC_bind (wpC_bind (wpC_holding (wpC_of (wpAny_mono h₁ (fun ov s₂ h₂ => wpC_bind (wpC_standAt (wpC_bind (wpC_holding (wpC_of (wpAny_mono h₂ (fun _ s₃ h₃ => ?_) fun _ _ x => x)))))) fun _ _ x => x))))
  intro Γ p hΓ _
  rw [Sem.wp_release]
  exact wpC_pure h₃
theorem C_assign_raises {targets value pos} {Q : Flow → Shared → Prop} (h : wpC M A (eval value env) (fun _ _ => False) E s)
    (hs : swapsWithSole targets value pos.line env = pure false := by rfl) : wpC M A (exec (.Assign targets value pos) env) Q E s := by
  show wpC M A (standAt pos >>= fun _ => swapsWithSole targets value pos.line env >>= _) Q E s
  refine wpC_bind (wpC_standAt ?_)
  rw [hs, pure_bind]
  exact wpC_bind (wpC_mono h (fun _ _ z => z.elim) fun _ _ x => x)
theorem C_return {e pos} {Q : Flow → Shared → Prop} (h : wpC M A (eval e env) (fun v => Q (.ret v)) E s) :
    wpC M A (exec (.Return (some e) pos) env) Q E s := by
  rw [exec_Return_some]
  exact wpC_bind (wpC_standAt (wpC_bind (wpC_mono h (fun v s₁ h₁ => wpC_pure h₁) fun _ _ x => x)))
theorem C_tuple2 {e1 e2 x pos} {Q : Value → Shared → Prop}
    (h : wpC M A (eval e1 env) (fun v1 s₁ => wpC M A (eval e2 env) (fun v2 s₂ => wpC M A (newTuple [v1, v2]) Q E s₂) E s₁) E s)
    (h1 : starEach [e1, e2] env = [(false, eval e1 env), (false, eval e2 env)] := by rfl) : wpC M A (eval (.Tuple [e1, e2] x pos) env) Q E s := by
  rw [arm_eval_Tuple, h1]
  refine wpC_bind (wpC_standAt (wpC_bind ?_))
  show wpC M A (spliced [(false, eval e1 env), (false, eval e2 env)]) _ E s
  rw [spliced]
  refine wpC_bind (wpC_mono h (fun v1 s₁ h₁ => ?_) fun _ _ x => x)
  simp only [Bool.false_eq_true, if_false, pure_bind]
  refine wpC_bind (wpC_holding ?_)
  rw [spliced]
  refine wpC_bind (wpC_mono h₁ (fun v2 s₂ h₂ => ?_) fun _ _ x => x)
  simp only [Bool.false_eq_true, if_false, pure_bind]
  refine wpC_bind (wpC_holding (wpC_pure (wpC_pure (wpC_pure ?_))))
  exact h₂
def KeepsOk (M : Model) (h : Heap) (f : Value) : Prop := ∃ k, Looks M h (keeperOf f) k
theorem keepsOk_type {M : Model} {h : Heap} {n : String} : KeepsOk M h (.type n) := ⟨_, Looks.of_pure rfl⟩
theorem keepsOk_K {M : Model} {h : Heap} {f : Value} {K : Frag} (X : K.In h) (e : keepIn K f = true) : KeepsOk M h f := by
  obtain ⟨k, _, z⟩ := looks_keep (M := M) e X
  exact ⟨k, z⟩
theorem callWith_C {pos : Pos} {f : Value} {first : List Value} {args : List (Bool × Sem Value)} {Q : Value → Shared → Prop}
    (h : wpAny M A (evalArgs f true args []) (fun a s₁ => KeepsOk M s₁.heap f ∧ wpC M A (call f (first ++ a.pos) a.kw) Q E s₁) E s) :
    wpC M A (callWith pos f first args []) Q E s := by
  unfold callWith
  refine wpC_bind (wpC_holding (wpC_of (wpAny_mono h (fun a s₁ h₁ => wpC_bind (wpC_standAt ?_)) fun _ _ x => x)))
  obtain ⟨⟨k, L⟩, hc⟩ := h₁
  refine wpC_bind (wpC_of (L.here ?_))
  have tail : ∀ {t : Sem Value}, wpC M A t Q E s₁ → wpC M A (t >>= fun r => holding [r] point >>= fun _ => pure r) Q E s₁ :=
    fun ht => wpC_bind (wpC_mono ht (fun r s₂ hr => wpC_bind (wpC_holding (wpC_point (wpC_pure hr)))) fun _ _ x => x)
  have mark : ∀ {m : Value}, wpC M A (callMarked m f (first ++ a.pos) a.kw) Q E s₁ := fun {m} Γ p hΓ hU => by
    unfold callMarked
    rw [Sem.wp_keep]
    exact hc Γ p hΓ hU
  cases k <;> cases (args.any (·.1) || ([] : List (Option PySem.Str × Sem Value)).any (·.1.isNone)) <;> dsimp only <;>
    first
      | exact tail hc
      | exact tail mark
      | exact tail (wpC_operate hc)
      | (split <;> first | exact tail hc | exact tail mark)
theorem C_call_attr {o name apos pos} {e : Expr} {rest : List Expr} {pl : Sem Bool} {Q : Value → Shared → Prop}
    (h : wpAny M A (eval o env) (fun ov s₁ => wpAny M A (getMethod ov name pl) (fun fx s₂ => wpAny M A (spliced (backTo pos (starEach (e :: rest) env)))
      (fun vs s₃ => KeepsOk M s₃.heap fx.1 ∧ wpC M A (call fx.1 (fx.2 ++ vs)) Q E s₃) E s₂) E s₁) E s)
    (he : eval (.Call (.Attribute o name apos) (e :: rest) [] pos) env = (do
      let ov ← eval o env
      standAt apos.atName
      let (f, first) ← holding [ov] (getMethod ov name pl)
      callWith pos f first (backTo pos (starEach (e :: rest) env)) []) := by rfl)
    (hs : starEach (e :: rest) env = (false, eval e env) :: starEach rest env := by rfl) :
    wpC M A (eval (.Call (.Attribute o name apos) (e :: rest) [] pos) env) Q E s := by
  rw [he]
  refine wpC_cut (wpAny_mono h (fun ov s₁ h₁ => wpC_bind (wpC_standAt (wpC_bind (wpC_holding (wpC_of (wpAny_mono h₁ (fun fx s₂ h₂ => ?_) fun _ _ x => x)))))) fun _ _ x => x)
  refine callWith_C ?_
  rw [hs] at h₂ ⊢
  exact evalArgs_plain h₂
theorem C_call_name {x np pos} {e : Expr} {rest : List Expr} {Q : Value → Shared → Prop}
    (h : wpAny M A (eval (.Name x np) env) (fun f s₁ => wpAny M A (spliced (backTo pos (starEach (e :: rest) env)))
      (fun vs s₂ => KeepsOk M s₂.heap f ∧ wpC M A (call f ([] ++ vs)) Q E s₂) E s₁) E s)
    (hs : starEach (e :: rest) env = (false, eval e env) :: starEach rest env := by rfl) :
    wpC M A (eval (.Call (.Name x np) (e :: rest) [] pos) env) Q E s := by
  show wpC M A (eval (.Name x np) env >>= fun f => callWith pos f [] (backTo pos (starEach (e :: rest) env)) []) Q E s
  refine wpC_cut (wpAny_mono h (fun f s₁ h₁ => ?_) fun _ _ x => x)
  refine callWith_C ?_
  rw [hs] at h₁ ⊢
  exact evalArgs_plain h₁
end
section
variable {prog : Program} {w : World} {A : Around} {E : Value → Shared → Prop} {s : Shared} {env : Env} {R : Result → Shared → Prop}
theorem C_try {body orelse : List Stmt} {h₀ : ExceptHandler} {hs : List ExceptHandler} {pos : Pos} {Q : Flow → Shared → Prop}
    (h : wpC (model prog w) A (execs body env) (fun f s₁ => match f with | .next => wpC (model prog w) A (execs orelse env) Q E s₁ | f => Q f s₁)
      (fun e s₁ => wpAny (model prog w) A (noteFrame e env) (fun _ s₂ => wpAny (model prog w) A (setFlight e none) (fun _ s₃ => wpC (model prog w) A (handleBy e env (h₀ :: hs)) Q E s₃) E s₂) E s₁) s) :
    wpC (model prog w) A (exec (.Try body (h₀ :: hs) orelse [] pos) env) Q E s := by
  rw [arm_exec_Try]
  refine wpC_bind (wpC_standAt ?_)
  unfold tryStmt
  simp only [List.isEmpty_nil, if_true, List.isEmpty_cons, Bool.false_and, Bool.false_eq_true, if_false]
  refine wpC_bind (wpC_attempt (wpC_mono h (fun f s₁ h₁ => ?_) fun e s₁ h₁ => ?_))
  · cases f <;> first | exact h₁ | exact wpC_pure h₁
  · exact wpC_cut (wpAny_mono h₁ (fun _ _ h₂ => wpC_cut h₂) fun _ _ x => x)
theorem C_noted {x : Sem Flow} {Q : Flow → Shared → Prop} (h : wpC (model prog w) A x Q (notedBy (model prog w) A env E) s) : wpC (model prog w) A (x.onRaise fun x => do noteFrame x env; theTreesLotGoes x) Q E s :=
  wpC_onRaise (wpC_mono h (fun _ _ q => q) fun _ _ hx => wpC_of (wpAny_bind (wpAny_mono hx (fun _ _ e => wpAny_theTreesLotGoes e) fun _ _ e => e)))
theorem codeC_suite {e : Value} {b₀ : Stmt} {body : List Stmt} {pos : Pos}
    (h : wpAny (model prog w) A (setFlight e none) (fun _ s₁ => wpC (model prog w) A (execs (b₀ :: body) env) (fun f s₂ => R (.ok f) s₂) (notedBy (model prog w) A env fun x s₂ => R (.error x) s₂) s₁) (notedBy (model prog w) A env fun x s₁ => R (.error x) s₁) s) :
    codeC (model prog w) A (.handlers e [.ExceptHandler none none (b₀ :: body) pos] env) R s := by
  refine codeC_of_tree ?_
  show wpC _ A (do return Fin.done (← (handleWith e env [.ExceptHandler none none (b₀ :: body) pos]).onRaise (fun x => do noteFrame x env; theTreesLotGoes x))) _ _ s
  refine wpC_bind (C_noted ?_)
  unfold handleWith
  exact wpC_bind (wpC_standAt (wpC_cut (wpAny_mono h (fun _ s₁ h₁ => wpC_mono h₁ (fun f s₂ h₂ => wpC_pure h₂) fun _ _ x => x) fun _ _ x => x)))
theorem C_handle {e : Addr} {X T : String} {t : Expr} {b₀ : Stmt} {suite : List Stmt} {pos : Pos} {rest : List ExceptHandler} {Q : Flow → Shared → Prop}
    (hexc : isSubtype (.type T) (.type "BaseException") = pure true) (hnt : isSubtype (.type ((Manifest.find? T).elim "type" fun x => x.metatype)) (.type "tuple") = pure false)
    (hsub : isSubtype (.type X) (.type T) = pure true)
    (h : wpAny (model prog w) (A.mark (some (.ref e))) (eval t env) (fun c s₁ => c = .type T ∧ s₁.TypeIs (.ref e) X ∧
      wpAny (model prog w) (A.mark (some (.ref e))) (setFlight (.ref e) none) (fun _ s₂ => wpC (model prog w) (A.mark (some (.ref e))) (execs (b₀ :: suite) env) Q (notedBy (model prog w) (A.mark (some (.ref e))) env (cameBackBy (model prog w) A env E)) s₂) (notedBy (model prog w) (A.mark (some (.ref e))) env (cameBackBy (model prog w) A env E)) s₁)
      (notedBy (model prog w) (A.mark (some (.ref e))) env (cameBackBy (model prog w) A env E)) s) :
    wpC (model prog w) A (handleBy (.ref e) env (.ExceptHandler (some t) none (b₀ :: suite) pos :: rest)) Q E s := by
  have hnb : (some (.ref e) : Option Value) ≠ some byPass := by intro q; cases q
  rw [handleBy]
  refine wpC_bind (wpC_holding (wpC_runOwn (codeC_of (codeAny_handlers_test (wpAny_mono h (fun c s₁ h₁ => ?_) fun _ _ x => x))) hnb))
  obtain ⟨rfl, hX, hk⟩ := h₁
  refine wpAny_excMatches_type hX hexc hnt hsub ?_
  refine wpC_bind (wpC_pure ?_)
  simp only [Bool.not_true, Bool.false_eq_true, if_false]
  refine wpC_bind (wpC_holding (wpC_runOwn (codeC_mono (codeC_suite (R := fun r s' => match r with | .ok f => Q f s' | .error e' => cameBackBy (model prog w) A env E e' s') hk) (fun r s₂ h₂ => ?_)) hnb))
  cases r with
  | error x => exact h₂
  | ok f => exact wpC_pure h₂
theorem codeC_func {body env}
    (h : wpC (model prog w) (A.deeper env) (execs body env) (fun f s' => R (.ok (.ret (match f with | .ret v => v | _ => .none))) s')
      (fun e s' => wpAny (model prog w) (A.deeper env) (leaving env e) (fun _ s'' => R (.error e) s'') (fun e' s'' => R (.error e') s'') s') s) :
    codeC (model prog w) A (.func body env) R s := by
  refine codeC_of_tree ?_
  show wpC _ (A.deeper env) (do point; match ← (execs body env).onRaise (leaving env) with | .ret v => ret v | _ => ret .none) _ _ s
  refine wpC_bind (wpC_point (wpC_bind (wpC_onRaise (wpC_mono h (fun f s' h' => ?_) fun _ _ h' => wpC_of h'))))
  cases f <;> exact wpC_pure h'
theorem codeC_call_function {a : Addr} {args : Args} {o : Obj} {fd : FuncData} {body : List Stmt} (hroom : A.depth < recursionLimit)
    (ho : s.heap.get? a = some o)
    (hd' : o.data = .func fd) (hco : fd.scope.isCoroutine = false) (hgen : fd.scope.isGenerator = false) (hbody : fd.body = .stmts body) (hcd : s.heap.CodeRec fd.code fd.qualname)
    (h : wpAny (model prog w) A.in1 (bindArgs fd args) (fun binds s₁ =>
      wpAny (model prog w) A.in1 (newFunctionEnv fd.scope fd.globals fd.closure binds (fd.qualname ++ ".<locals>.") (some a) fd.code none fd.builtins)
        (fun env s₂ => s₂.heap.NoLimit ∧ codeC (model prog w) A (.func body env) R s₂) (fun e s' => R (.error e) s') s₁) (fun e s' => R (.error e) s') s) :
    codeC (model prog w) A (.call (.ref a) args) R s := by
  refine codeC_of_tree ?_
  show wpC _ A.in1 (callAny (.ref a) args) _ _ s
  simp only [callAny]
  refine wpC_cut (wpAny_load ho ?_)
  obtain ⟨c, oc, vs, tq, hc, hoc, hdc, hq⟩ := hcd
  simp only [hd', callFunction, hco, hgen, hbody, hc]
  rw [hc] at h
  refine wpC_cut (m := field (.ref c) 1) (wpAny_field hoc hdc hq (wpC_cut (wpAny_pure ?_)))
  exact wpC_cut (wpAny_mono h (fun binds s₁ h₁ => wpC_cut (wpAny_mono h₁ (fun env s₂ h₂ => wpC_cut (wpAny_enterFrame h₂.1 hroom
    (wpC_pure (And.intro rfl h₂.2)))) fun _ _ h' => h')) fun _ _ h' => h')
theorem codeC_call_def {a : Addr} {o : Obj} {fd : FuncData} {body : List Stmt} {args : Args} {binds : List (PySem.Str × Value)}
    (hroom : A.depth < recursionLimit) (ho : s.heap.get? a = some o) (hdata : o.data = .func fd) (hlim : s.heap.NoLimit) (hcd : s.heap.CodeRec fd.code fd.qualname)
    (hbody : fd.body = .stmts body) (hbind : BindsTo s fd args binds)
    (hcell : ∀ x ∈ fd.scope.names, x.2 ≠ .cell) (hloc : ∀ x ∈ binds, fd.scope.names.lookup x.1 = some .local)
    (h : ∀ h₀, h₀.Ns s.heap.objs.size (fun x => binds.reverse.lookup x) → (∀ b o, s.heap.get? b = some o → h₀.get? b = some o) →
      wpC (model prog w) (A.deeper (callEnv fd s.heap.objs.size a)) (execs body (callEnv fd s.heap.objs.size a)) (fun f s' => R (.ok (.ret (match f with | .ret v => v | _ => .none))) s')
        (fun e s' => wpAny (model prog w) (A.deeper (callEnv fd s.heap.objs.size a)) (leaving (callEnv fd s.heap.objs.size a) e) (fun _ s'' => R (.error e) s'') (fun e' s'' => R (.error e') s'') s')
        { s with heap := h₀, toks := s.toks + binds.length })
    (hco : fd.scope.isCoroutine = false := by rfl) (hgen : fd.scope.isGenerator = false := by rfl) (hk : fd.scope.kind = .function := by rfl) :
    codeC (model prog w) A (.call (.ref a) args) R s := by
  refine codeC_call_function hroom ho hdata hco hgen hbody hcd (hbind _ _ _ _ ?_)
  refine wpAny_newFunctionEnv hcell hloc (fun h₀ hns₀ hsb₀ => ⟨hlim.fresh _ hsb₀, codeC_func (h h₀ hns₀ fun b o e => ?_)⟩) hk
  exact hsb₀.extBut b o (Nat.ne_of_lt (Heap.lt_size e)) (Heap.get?_push_of_some _ e)
end
end Mine
end PartC3

section PartC4
open PySem PySem.W PyProof.Rows PySem.Calls PySem.Spec
set_option linter.all false
namespace Mine
def Trc (h B : Heap) (e : Addr) (cls ctx : Value) (fl : Option Value) : Prop :=
  ∃ oe vs, h.get? e = some oe ∧ oe.cls = cls ∧ oe.data = .fields vs ∧ vs[2]? = some ctx ∧ match fl with
   | none => vs[1]? = some .none
   | some f => ∃ T oT ts, vs[1]? = some (.ref T) ∧ B.get? T = none ∧ T ≠ e ∧ h.get? T = some oT ∧ oT.data = .fields ts ∧ ts[3]? = some f
structure Up (B : Heap) (l : List Env) (e : Addr) (cls ctx : Value) (fl : Option Value) (h : Heap) : Prop where
  stays : B.StaysIn h
  new : B.get? e = none
  frames : h.FunFrames B l
  trc : Trc h B e cls ctx fl
section
variable {M : Model} {A : Around} {E : Value → Shared → Prop} {s : Shared} {env : Env} {outer l : List Env} {B : Heap} {e L : Addr} {cls ctx : Value} {fl : Option Value} {Q : Unit → Shared → Prop}
theorem Up.tail (U : Up B (env :: outer) e cls ctx fl s.heap) : Up B outer e cls ctx fl s.heap := ⟨U.stays, U.new, U.frames.2.2, U.trc⟩
theorem Up.there {h : Heap} (U : Up B l e cls ctx fl h) : ∃ oe vs, h.get? e = some oe ∧ oe.cls = cls ∧ oe.data = .fields vs ∧ vs[2]? = some ctx := by
  obtain ⟨oe, vs, h1, h2, h3, h4, _⟩ := U.trc
  exact ⟨oe, vs, h1, h2, h3, h4⟩
theorem up_entry {head : Value} {hadNext : Bool} {oe : Obj} {vs : Array Value} (hfr : A.frames = some (env :: outer)) (hf : env.frame = some L) (st : B.StaysIn s.heap) (hen : B.get? e = none)
    (hl : s.heap.FunFrames B (env :: outer)) (he : s.heap.get? e = some oe) (hd : oe.data = .fields vs) (hsz : 1 < vs.size) (h2 : vs[2]? = some ctx)
    (hQ : ∀ h', Up B (env :: outer) e oe.cls ctx (some (rawInt L)) h' → s.heap.UpToSlots h' → Q () { s with heap := h' }) :
    wpAny M A (do let a ← frameOf env; let pl ← entryPlaceOf L hadNext; let b ← EntryCells.newEntry head a .none (rawInt L) .none pl; setField (.ref e) 1 b) Q E s := by
  have nf : e ∉ (env :: outer).filterMap (·.frame) := fun hm => by
    obtain ⟨_, o, ho, hnf⟩ := hl.mem hm
    rw [he] at ho; injection ho with ho; subst ho; exact hnf vs hd
  refine wpAny_bind (wpAny_frameOf_fun hfr hl hf fun h₁ k₁ => wpAny_bind (wpAny_entryPlaceOf fun pl hpl => ?_))
  unfold EntryCells.newEntry newFields
  refine wpAny_bind (wpAny_newObj_type ?_ (hpl.sizeOk5 _ _ _ _ _))
  have he₁ : h₁.get? e = some oe := (k₁.2.1 e nf).trans he
  have st₁ : B.StaysIn h₁ := fun b o hb => (k₁.2.1 b fun hm => by rw [(hl.mem hm).1] at hb; cases hb).trans (st b o hb)
  generalize hob : ({ cls := .type "traceback", dict := none, data := .fields ([head, .ref L, .none, rawInt L, .none] ++ (if pl.isEmpty then List.replicate 6 Value.none else pl)).toArray } : Obj) = ob
  have he₂ := Heap.get?_push_of_some (h := h₁) ob he₁
  refine wpAny_setField he₂ hd hsz (hQ _ ?_ ?_)
  · have ne : h₁.objs.size ≠ e := Nat.ne_of_gt (Heap.lt_size he₁)
    have hd₃ := Obj.data_mapFields hd (·.setIfInBounds 1 (Value.ref h₁.objs.size))
    have keep : ∀ b o, b ≠ e → h₁.get? b = some o → ((h₁.push ob).update e (Obj.mapFields (·.setIfInBounds 1 (Value.ref h₁.objs.size)))).get? b = some o := fun b o hbe hb => by
      rw [Heap.get?_update_other _ _ (Ne.symm hbe)]
      exact Heap.get?_push_of_some _ hb
    refine ⟨fun b o hb => keep b o (fun q => by rw [q, hen] at hb; cases hb) (st₁ b o hb), hen, hl.of_keeps fun b o hb hnf => ?_, ?_⟩
    · obtain ⟨sl, hs⟩ := k₁.2.2 b o hb
      exact ⟨_, keep b _ (fun q => by rw [q, he] at hb; injection hb with hb; subst hb; exact hnf vs hd) hs, rfl⟩
    · refine ⟨_, _, Heap.get?_update_self _ he₂ (Obj.isFreed_of_fields hd₃), Obj.cls_mapFields _ _, hd₃, ?_, h₁.objs.size, ob, _, ?_, st₁.fresh, ne, ?_, by subst hob; rfl, ?_⟩
      · rw [Array.getElem?_setIfInBounds_ne (by decide)]; exact h2
      · simp [hsz]
      · rw [Heap.get?_update_other _ _ (Ne.symm ne)]; exact Heap.get?_push_size h₁ (by subst hob; rfl)
      · first | (simp; done) | (rcases hpl with rfl | ⟨_, _, _, _, _, _, _, rfl⟩ <;> simp)
  · intro b o hb hnf
    obtain ⟨sl, hs⟩ := k₁.2.2 b o hb
    refine ⟨sl, ?_⟩
    rw [Heap.get?_update_other _ _ (fun q : e = b => by rw [← q, he] at hb; injection hb with hb; subst hb; exact hnf vs hd)]
    exact Heap.get?_push_of_some _ hs
theorem up_note (hfr : A.frames = some (env :: outer)) (hf : env.frame = some L) (U : Up B (env :: outer) e cls ctx fl s.heap) (hfl : fl = none ∨ fl = some .none ∨ fl = some (rawInt L))
    (hQ : ∀ h', Up B (env :: outer) e cls ctx (some (rawInt L)) h' → s.heap.UpToSlots h' → Q () { s with heap := h' }) : wpAny M A (noteFrame (.ref e) env) Q E s := by
  obtain ⟨st, hen, hl, oe, vs, he, rfl, hd, h2, ht⟩ := U
  have hsz : 1 < vs.size := Nat.lt_trans (by decide) (Array.getElem?_eq_some_iff.mp h2).1
  unfold noteFrame
  simp only [hf]
  rcases hfl with rfl | rfl | rfl
  · refine wpAny_bind (wpAny_field he hd ht ?_)
    rw [if_neg (by decide)]
    exact up_entry hfr hf st hen hl he hd hsz h2 hQ
  · obtain ⟨T, oT, ts, h1, hnT, hTe, hT, hdT, h3⟩ := ht
    refine wpAny_bind (wpAny_field he hd h1 ?_)
    rw [if_pos (show (Value.ref T != Value.none) = true from by simp)]
    refine wpAny_bind (wpAny_field hT hdT h3 ?_)
    rw [if_neg (show ¬ ((Value.none == rawInt L) = true) from by simp [rawInt])]
    refine wpAny_bind (wpAny_setField hT hdT (Array.getElem?_eq_some_iff.mp h3).1 ?_)
    have other : ∀ b, b ≠ T → (s.heap.update T (Obj.mapFields (·.setIfInBounds 3 Value.none))).get? b = s.heap.get? b := fun b hb => Heap.get?_update_other _ _ (Ne.symm hb)
    have noT : ∀ b o, s.heap.get? b = some o → (∀ vs, o.data ≠ .fields vs) → b ≠ T := fun b o hb hnf q => by
      rw [q, hT] at hb; injection hb with hb; subst hb; exact hnf ts hdT
    refine up_entry hfr hf (fun b o hb => (other b fun q => by rw [q, hnT] at hb; cases hb).trans (st b o hb)) hen (hl.of_keeps fun b o hb hnf => ⟨o, (other b (noT b o hb hnf)).trans hb, rfl⟩)
      ((other e (Ne.symm hTe)).trans he) hd hsz h2 fun h' U' k => hQ h' U' fun b o hb hnf => k b o ((other b (noT b o hb hnf)).trans hb) hnf
  · obtain ⟨T, oT, ts, h1, hnT, hTe, hT, hdT, h3⟩ := ht
    refine wpAny_bind (wpAny_field he hd h1 ?_)
    rw [if_pos (show (Value.ref T != Value.none) = true from by simp)]
    refine wpAny_bind (wpAny_field hT hdT h3 ?_)
    rw [if_pos (show (rawInt L == rawInt L) = true from by simp)]
    exact wpAny_pure (hQ s.heap ⟨st, hen, hl, oe, vs, he, rfl, hd, h2, T, oT, ts, h1, hnT, hTe, hT, hdT, h3⟩ (.refl _))
theorem up_flight {f : Value} {g : Option Addr} (U : Up B l e cls ctx (some f) s.heap)
    (hQ : ∀ h', Up B l e cls ctx (some (g.elim .none fun a => rawInt a)) h' → s.heap.UpToSlots h' → Q () { s with heap := h' }) : wpAny M A (setFlight (.ref e) g) Q E s := by
  obtain ⟨st, hen, hl, oe, vs, he, rfl, hd, h2, T, oT, ts, h1, hnT, hTe, hT, hdT, h3⟩ := U
  have hsz3 : 3 < ts.size := (Array.getElem?_eq_some_iff.mp h3).1
  have other : ∀ b, b ≠ T → (s.heap.update T (Obj.mapFields (·.setIfInBounds 3 (g.elim Value.none fun f => rawInt f)))).get? b = s.heap.get? b :=
    fun b hb => Heap.get?_update_other _ _ (Ne.symm hb)
  have noT : ∀ b o, s.heap.get? b = some o → (∀ vs, o.data ≠ .fields vs) → b ≠ T := fun b o hb hnf q => by
    rw [q, hT] at hb; injection hb with hb; subst hb; exact hnf ts hdT
  unfold setFlight
  refine wpAny_bind (wpAny_field he hd h1 ?_)
  rw [if_pos (show (Value.ref T != Value.none) = true from by simp)]
  refine wpAny_setField hT hdT hsz3 (hQ _ ⟨fun b o hb => (other b fun q => by rw [q, hnT] at hb; cases hb).trans (st b o hb), hen,
    hl.of_keeps fun b o hb hnf => ⟨o, (other b (noT b o hb hnf)).trans hb, rfl⟩, ?_⟩ fun b o hb hnf => ⟨o.slots, (other b (noT b o hb hnf)).trans hb⟩)
  exact ⟨oe, vs, (other e (Ne.symm hTe)).trans he, rfl, hd, h2, T, _, _, h1, hnT, hTe, Heap.get?_update_self _ hT (Obj.isFreed_of_fields (Obj.data_mapFields hdT _)), Obj.data_mapFields hdT _, by simp [hsz3]⟩
theorem up_flight_raw (U : Up B l e cls ctx none s.heap) {g : Option Addr} (hQ : Q () s) : wpAny M A (setFlight (.ref e) g) Q E s := by
  obtain ⟨st, hen, hl, oe, vs, he, rfl, hd, h2, ht⟩ := U
  unfold setFlight
  refine wpAny_bind (wpAny_field he hd ht ?_)
  rw [if_neg (by decide)]
  exact wpAny_pure hQ
theorem up_leaving (hfr : A.frames = some (env :: outer)) (hf : env.frame = some L) (U : Up B (env :: outer) e cls ctx fl s.heap) (hfl : fl = none ∨ fl = some .none ∨ fl = some (rawInt L))
    (hQ : ∀ h', Up B outer e cls ctx (some .none) h' → s.heap.UpToSlots h' → Q () { s with heap := h' }) : wpAny M A (leaving env (.ref e)) Q E s := by
  unfold leaving
  refine wpAny_bind (up_note hfr hf U hfl fun h₁ U₁ k₁ => ?_)
  exact up_flight (g := none) U₁ fun h₂ U₂ k₂ => hQ h₂ (Up.tail (s := { s with heap := h₂ }) U₂) (k₁.trans k₂)
theorem up_noted {E' : Value → Shared → Prop} (hfr : A.frames = some (env :: outer)) (hf : env.frame = some L) (U : Up B (env :: outer) e cls ctx fl s.heap) (hfl : fl = none ∨ fl = some .none ∨ fl = some (rawInt L))
    (hQ : ∀ h', Up B (env :: outer) e cls ctx (some (rawInt L)) h' → s.heap.UpToSlots h' → E' (.ref e) { s with heap := h' }) : notedBy M A env E' (.ref e) s :=
  up_note hfr hf U hfl hQ
theorem up_back {E' : Value → Shared → Prop} (hf : env.frame = some L) (U : Up B l e cls ctx (some (rawInt L)) s.heap)
    (hQ : ∀ h', Up B l e cls ctx (some (rawInt L)) h' → s.heap.UpToSlots h' → E' (.ref e) { s with heap := h' }) : cameBackBy M A env E' (.ref e) s := by
  show wpAny M A (do
    if (← field (.ref e) 1) == .none then unsupported "frame.own-activation:exception-without-traceback"
    setFlight (.ref e) env.frame) _ _ _
  obtain ⟨oe, vs, he, _, hd, h2, T, oT, ts, h1, _⟩ := U.trc
  refine wpAny_bind (wpAny_field he hd h1 ?_)
  rw [if_neg (show ¬ ((Value.ref T == Value.none) = true) from by simp)]
  rw [hf]
  exact up_flight (g := some L) U hQ
end
section
variable {prog : Program} {w : World} {A : Around} {E : Value → Shared → Prop} {s : Shared} {env : Env} {outer l : List Env} {B h : Heap} {e : Addr} {cls : Value} {vs : List Value}
theorem up_made {h' : Heap} (st : B.StaysIn h) (hl : h.FunFrames B l) (hx : Heap.MadeExcOf h h' e cls vs) : Up B l e cls .none none h' := by
  obtain ⟨t, he, _, _⟩ := hx.there
  refine ⟨fun b o hb => hx.keeps b o (st b o hb), ?_, hl.of_keeps fun b o hb _ => ⟨o, hx.keeps b o hb, rfl⟩, ?_⟩
  · cases q : B.get? e with
    | none => rfl
    | some o => have := st e o q; rw [hx.new] at this; cases this
  · exact ⟨_, _, he, rfl, rfl, rfl, rfl⟩
theorem raise_none {α : Type} {e : Value} {Q : α → Shared → Prop} (hh : A.handled = none) (h : E e s) : wpAny (model prog w) A (raiseNew e : Sem α) Q E s := wpAny_raiseNew_none hh h
end
end Mine
end PartC4

section PartC5
open PySem PySem.W PyProof.Rows PySem.Calls PySem.Spec
set_option linter.all false
set_option maxRecDepth 100000
namespace Mine
theorem entry_unchain : entryFor table "proto.unchain" = some Builtin.«proto.unchain» := entryFor_of_tree (by kernel_rfl)
theorem unchain_plain : plainId "proto.unchain" = true := by decide +kernel
def CtxAt (h : Heap) (a : Addr) (ctx : Value) : Prop := ∃ o vs, h.get? a = some o ∧ o.data = .fields vs ∧ vs[2]? = some ctx
theorem Up.ctx {B h : Heap} {l : List Env} {e : Addr} {cls ctx : Value} {fl : Option Value} (U : Up B l e cls ctx fl h) : CtxAt h e ctx := by
  obtain ⟨oe, vs, h1, h2, h3, h4, _⟩ := U.trc
  exact ⟨oe, vs, h1, h3, h4⟩
section
variable {prog : Program} {w : World} {A : Around} {E : Value → Shared → Prop} {R : Result → Shared → Prop} {s : Shared} {l : List Env} {B : Heap} {e a b : Addr} {cls : Value}
theorem unchain_stop {v slow : Value} {t : Bool} (hc : CtxAt s.heap a .none) (h : R (.ok (.ret .none)) s) : codeAny (model prog w) A (.builtin "proto.unchain" ⟨[v, .ref a, slow, .bool t], []⟩) R s := by
  obtain ⟨o, vs, ho, hd, h2⟩ := hc
  refine codeAny_builtin entry_unchain ?_
  unfold Builtin.«proto.unchain»
  refine wpAny_bind (wpAny_field ho hd h2 ?_)
  rw [if_pos (by decide)]
  exact wpAny_pure h
theorem unchain_step (hc : CtxAt s.heap a (.ref b)) (hb : b ≠ e) (hab : b ≠ a) (hc' : CtxAt s.heap b .none) (h : R (.ok (.ret .none)) s) :
    codeAny (model prog w) A (.builtin "proto.unchain" ⟨[.ref e, .ref a, .ref a, .bool false], []⟩) R s := by
  obtain ⟨o, vs, ho, hd, h2⟩ := hc
  refine codeAny_builtin entry_unchain ?_
  unfold Builtin.«proto.unchain»
  refine wpAny_bind (wpAny_field ho hd h2 ?_)
  rw [if_neg (by simp)]
  rw [if_neg (by simpa using hb), if_neg (by simpa using hab)]
  refine wpAny_bind (wpAny_pure ?_)
  exact wpAny_pure ⟨Code.quiet_builtin _ (by decide +kernel), unchain_stop hc' h⟩
theorem raise_under {α : Type} {hd : Addr} {Q : α → Shared → Prop} (hh : A.handled = some (.ref hd)) (U : Up B l e cls .none none s.heap) (hne : hd ≠ e)
    (hc : CtxAt s.heap hd .none ∨ ∃ b, CtxAt s.heap hd (.ref b) ∧ b ≠ e ∧ b ≠ hd ∧ CtxAt s.heap b .none)
    (h : ∀ h', Up B l e cls (.ref hd) none h' → (∀ b o, b ≠ e → s.heap.get? b = some o → h'.get? b = some o) → E (.ref e) { s with heap := h' }) :
    wpAny (model prog w) A (raiseNew (.ref e) : Sem α) Q E s := by
  obtain ⟨st, hen, hl, oe, vs, he, rfl, hdd, h2, ht⟩ := U
  unfold raiseNew
  refine wpAny_bind (wpAny_handled ?_)
  rw [hh]
  dsimp only
  rw [if_pos (by simpa using hne)]
  have fin : wpAny (model prog w) A (updateField e 2 (.ref hd) >>= fun _ => (throw (.ref e) : Sem α)) Q E s := by
    refine wpAny_bind ?_
    have hsz : 2 < vs.size := (Array.getElem?_eq_some_iff.mp h2).1
    have nb : ∀ b o, b ≠ e → s.heap.get? b = some o → (s.heap.update e (Obj.mapFields (·.setIfInBounds 2 (.ref hd)))).get? b = some o := fun b o q hb => by
      rw [Heap.get?_update_other _ _ (Ne.symm q)]; exact hb
    have d3 := Obj.data_mapFields hdd (·.setIfInBounds 2 (Value.ref hd))
    refine wpAny_setField (a := e) he hdd hsz (wpAny_throw (h _ ⟨fun b o hb => nb b o (fun q => by rw [q, hen] at hb; cases hb) (st b o hb), hen, hl.of_keeps fun b o hb hnf => ?_, ?_⟩ nb))
    · exact ⟨o, nb b o (fun q => by rw [q, he] at hb; injection hb with hb; subst hb; exact hnf vs hdd) hb, rfl⟩
    · refine ⟨_, _, Heap.get?_update_self _ he (Obj.isFreed_of_fields d3), Obj.cls_mapFields _ _, d3, by simp [hsz], ?_⟩
      show (vs.setIfInBounds 2 (Value.ref hd))[1]? = some Value.none
      rw [Array.getElem?_setIfInBounds_ne (by decide)]; exact ht
  refine wpAny_bind (wpAny_holding (wpAny_runValue ?_))
  rcases hc with hc | ⟨b, hc, hbe, hbh, hc'⟩
  · exact unchain_stop hc fin
  · exact unchain_step hc hbe hbh hc' fin
end
end Mine
end PartC5

section PartC6
open PySem PySem.W PyProof.Rows PySem.Calls PySem.Spec
set_option linter.all false
set_option maxRecDepth 100000
namespace Mine
abbrev fr (l : List Env) : List Addr := l.filterMap (·.frame)
def SlotR (Fs : List Addr) (h h' : Heap) : Prop := ∀ b o, h.get? b = some o → (b ∉ Fs → h'.get? b = some o) ∧ (b ∈ Fs → ∃ sl, h'.get? b = some { o with slots := sl })
section
variable {Fs : List Addr} {h h₁ h₂ h' B B' : Heap} {l : List Env} {e : Addr} {cls ctx : Value} {fl : Option Value}
theorem SlotR.keeps (k : ∀ b o, h.get? b = some o → h'.get? b = some o) : SlotR Fs h h' := fun b o q => ⟨fun _ => k b o q, fun _ => ⟨o.slots, k b o q⟩⟩
theorem SlotR.refl : SlotR Fs h h := .keeps fun _ _ q => q
theorem SlotR.trans (x : SlotR Fs h h₁) (y : SlotR Fs h₁ h₂) : SlotR Fs h h₂ := fun b o q => by
  obtain ⟨x1, x2⟩ := x b o q
  refine ⟨fun n => (y b o (x1 n)).1 n, fun m => ?_⟩
  obtain ⟨s1, q1⟩ := x2 m
  obtain ⟨s2, q2⟩ := (y b _ q1).2 m
  exact ⟨s2, q2⟩
theorem SlotR.up (x : SlotR Fs h h') {b : Addr} {o : Obj} (q : h.get? b = some o) : ∃ sl, h'.get? b = some { o with slots := sl } := by
  by_cases m : b ∈ Fs
  · exact (x b o q).2 m
  · exact ⟨o.slots, (x b o q).1 m⟩
theorem SlotR.more {Fs' : List Addr} (x : SlotR Fs h h') (k : ∀ b ∈ Fs, b ∈ Fs' ∨ h.get? b = none) : SlotR Fs' h h' := fun b o q => by
  refine ⟨fun n => (x b o q).1 fun m => ?_, fun _ => x.up q⟩
  rcases k b m with z | z
  · exact n z
  · rw [q] at z; cases z
theorem Up.weaken {h : Heap} (U : Up B l e cls ctx fl h) (k : ∀ b o, B'.get? b = some o → B.get? b = some o) : Up B' l e cls ctx fl h := by
  have kn : ∀ b, B.get? b = none → B'.get? b = none := fun b q => by
    cases q' : B'.get? b with
    | none => rfl
    | some o => have := k b o q'; rw [q] at this; cases this
  refine ⟨fun b o q => U.stays b o (k b o q), kn _ U.new, ?_, ?_⟩
  · have := U.frames
    revert this
    generalize l = l'
    intro H
    induction l' with
    | nil => trivial
    | cons env rest ih =>
      obtain ⟨hk, ⟨L, o, hf, hn, ho, hd⟩, hr⟩ := H
      exact ⟨hk, ⟨L, o, hf, kn _ hn, ho, hd⟩, ih hr⟩
  · obtain ⟨oe, vs, h1, h2, h3, h4, h5⟩ := U.trc
    refine ⟨oe, vs, h1, h2, h3, h4, ?_⟩
    cases fl with
    | none => exact h5
    | some f =>
      obtain ⟨T, oT, ts, a1, a2, a3⟩ := h5
      exact ⟨T, oT, ts, a1, kn _ a2, a3⟩
theorem frames_data : ∀ {l : List Env}, h.FunFrames B l → ∀ b ∈ fr l, ∃ o, h.get? b = some o ∧ ∀ vs, o.data ≠ .fields vs
  | [], _, _, m => nomatch m
  | env :: rest, ⟨hk, ⟨L, o, hf, hn, ho, hd⟩, hr⟩, b, m => by
    rw [show fr (env :: rest) = L :: fr rest from List.filterMap_cons_some hf] at m
    rcases List.mem_cons.mp m with rfl | m
    · exact ⟨o, ho, hd⟩
    · exact frames_data hr b m
theorem slot_of_up (hl : h.FunFrames B' l) (st : (hideAll h (fr l)).StaysIn h') (k : h.UpToSlots h') : SlotR (fr l) h h' := fun b o q => by
  refine ⟨fun n => st b o (hideAll_get _ q n), fun m => ?_⟩
  obtain ⟨o', ho', hd⟩ := frames_data hl b m
  rw [q] at ho'; cases ho'
  exact k b o q hd
theorem SlotR.ns {a : Addr} {m : PySem.Str → Option Value} (x : SlotR Fs h h') (n : h.Ns a m) : h'.Ns a m := by
  obtain ⟨o, es, ep, ho, hd, r⟩ := n
  obtain ⟨sl, hs⟩ := x.up ho
  exact ⟨_, es, ep, hs, hd, r⟩
theorem SlotR.kts (T : KtsTurn Fs h h') : SlotR Fs h h' := fun b o q => ⟨fun n => T.other b o q n, fun m => T.frame b o q m⟩
end
theorem frames_slot {base h h' : Heap} {l : List Env} {Fs : List Addr} (hl : h.FunFrames base l) (S : SlotR Fs h h') : h'.FunFrames base l := hl.of_keeps fun b o q _ => by
  obtain ⟨sl, hs⟩ := S.up q
  exact ⟨_, hs, rfl⟩
section
variable {A₀ A : Around} {base h₀ h h' g g' : Heap} {outer : List Env} {L L' : Addr} {m m' : PySem.Str → Option Value} {news : List (Addr × Obj)}
theorem turn (B : Below A₀ base outer h₀) (F : Fr h₀ L h m) (N : News h₀ L h news) (D : KtsDicts (fr outer) h₀) (S : SlotR (L :: fr outer) h h') :
    ∃ g', KtsTurn (fr outer) h₀ g' ∧ Fr g' L h' m ∧ News g' L h' news ∧ Below A₀ base outer g' ∧ KtsDicts (fr outer) g' := by
  have nL : h₀.get? L = none := kts_self F
  obtain ⟨T, K⟩ := kts_turn_at (h := h') (fs := fr outer) (g := h₀)
    (fun b hb => by
      obtain ⟨o, ho, _⟩ := frames_data B.frames b hb
      exact ⟨o, ho⟩)
    (fun b o q n => (S b o (F.keep b o q)).1 fun m => by
      rcases List.mem_cons.mp m with rfl | m
      · rw [nL] at q; cases q
      · exact n m)
    (fun b o q _ => S.up (F.keep b o q))
  refine ⟨_, T, ⟨S.ns F.ns, K, by rw [T.size]; exact F.above⟩, fun p hp => ?_, ⟨B.stack, fun b o q => T.other b o (B.stays b o q) fun m => ?_, frames_slot B.frames (.kts T)⟩, D.turn T⟩
  · obtain ⟨n1, n2, n3⟩ := N p hp
    refine ⟨(S _ _ n1).1 fun m => ?_, n2, T.none_ _ n3⟩
    rcases List.mem_cons.mp m with z | m
    · exact n2 z
    · obtain ⟨o, ho, _⟩ := frames_data B.frames _ m
      rw [n3] at ho; cases ho
  · rw [(B.frames.mem m).1] at q; cases q
theorem exit_slot {s : Shared} {Fs : List Addr} (N0 : News h₀ L s.heap news) (T : KtsTurn Fs (hideAll s.heap (news.map (·.1))) g') (F : Fr g' L' h' m') (N : News g' L' h' news) : SlotR Fs s.heap h' := fun b o q => by
  by_cases mem : b ∈ news.map (·.1)
  · obtain ⟨p, hp, rfl⟩ := List.mem_map.mp mem
    have e := (N0 p hp).1
    rw [q] at e; cases e
    exact ⟨fun _ => (N p hp).1, fun _ => ⟨p.2.slots, (N p hp).1⟩⟩
  · have q' := hideAll_get _ q mem
    exact ⟨fun n => F.keep _ _ (T.other b o q' n), fun m => by
      obtain ⟨sl, hs⟩ := T.frame b o q' m
      exact ⟨sl, F.keep _ _ hs⟩⟩
end
section
variable {prog : Program} {w : World} {A₀ A : Around} {s : Shared} {base h₀ : Heap} {outer : List Env} {L : Addr} {m : PySem.Str → Option Value} {env : Env} {news : List (Addr × Obj)} {K : Frag} {p : Program} {loose : List PySem.Str} {mean : ExcName → Option Value} {mg mb : PySem.Str → Option Value}
    {R : Result → Shared → Prop} {name qual : PySem.Str} {params : Arguments} {body : List Stmt} {scope : Scope} {dV kV doc pm cdv ct oc : Value} {an od : Option Addr} {osl : Array (Option Value)} {f : Addr} {args : Args} {binds : List (PySem.Str × Value)}
theorem enter_C (B : Below A₀ base outer h₀) (F : Fr h₀ L s.heap m) (X : K.In h₀) (N : News h₀ L s.heap news) (T : Top p loose mean mg mb h₀) (D : KtsDicts (fr outer) h₀) (hA : A.frames = some (env :: outer)) (hf : env.frame = some L) (hke : env.scope.kind = .function)
    (ho : K.lookup f = some ⟨oc, od, .func (fnOf name qual params body scope dV kV doc pm an cdv ct), osl⟩) (hcd : codeIn K cdv qual = true) (hroom : A.depth < recursionLimit)
    (hbind : BindsTo s (fnOf name qual params body scope dV kV doc pm an cdv ct) args binds) (hloc : ∀ y ∈ binds, scope.names.lookup y.1 = some .local)
    (h : ∀ g L' h₁, g = hideAll s.heap (news.map (·.1)) → Fr g L' h₁ (fun y => binds.reverse.lookup y) → News g L' h₁ news → Below A base (env :: outer) g → K.In g → Top p loose mean mg mb g → KtsDicts (fr (env :: outer)) g → (∀ b o, s.heap.get? b = some o → h₁.get? b = some o) → s.heap.get? L' = none →
      wpC (model prog w) (A.deeper (envOf qual scope L' f cdv)) (execs body (envOf qual scope L' f cdv)) (fun fl s' => R (.ok (.ret (match fl with | .ret v => v | _ => .none))) s')
        (fun e s' => wpAny (model prog w) (A.deeper (envOf qual scope L' f cdv)) (leaving (envOf qual scope L' f cdv) e) (fun _ s'' => R (.error e) s'') (fun e' s'' => R (.error e') s'') s')
        { s with heap := h₁, toks := s.toks + binds.length })
    (hco : scope.isCoroutine = false) (hgen : scope.isGenerator = false) (hk : scope.kind = .function)
    (hcell : ∀ x ∈ scope.names, x.2 ≠ .cell) : codeC (model prog w) A (.call (.ref f) args) R s := by
  obtain ⟨FG, BG, st, _⟩ := groundX (R := R) B F N hA hf hke
  have X' := X.keeps F.keep
  refine codeC_call_def (fd := fnOf name qual params body scope dV kV doc pm an cdv ct) (body := body) (binds := binds) hroom (X' _ _ ho) rfl (T.nolimit.keeps F.keep) (codeRec_of X' hcd) rfl hbind hcell hloc (fun h₁ hns hk₁ => ?_) hco hgen hk
  refine h _ s.heap.objs.size h₁ rfl ⟨hns, fun b o q => hk₁ b o (of_hideAll _ q), Nat.le_of_eq (hideAll_size _ _)⟩ (fun p hp => ⟨hk₁ _ _ (N p hp).1, Nat.ne_of_lt (Heap.lt_size (N p hp).1), hideAll_none _ (List.mem_map_of_mem hp)⟩) BG (X.keeps st) (T.keeps st) (fun b hb => ?_) hk₁ (Heap.get?_none_of_le (Nat.le_refl _))
  rw [show fr (env :: outer) = L :: fr outer from List.filterMap_cons_some hf] at hb
  rcases List.mem_cons.mp hb with rfl | hb
  · obtain ⟨oL, es, ep, hL, hLd, _⟩ := FG.ns
    exact ⟨oL, es, ep, hL, hLd⟩
  · obtain ⟨o, es, n, ho', hd⟩ := D b hb
    exact ⟨o, es, n, st b o ho', hd⟩
end
end Mine
end PartC6

section PartC7
open PySem PySem.W PyProof.Rows PySem.Calls PySem.Spec
set_option linter.all false
set_option maxRecDepth 100000
namespace Mine
theorem SlotR.toUp {Fs : List Addr} {h h' : Heap} (S : SlotR Fs h h') : h.UpToSlots h' := fun b o q _ => S.up q
theorem fr_cons {env : Env} {outer : List Env} {L : Addr} (hf : env.frame = some L) : fr (env :: outer) = L :: fr outer := List.filterMap_cons_some hf
section
variable {prog : Program} {w : World} {A₀ A : Around} {E : Value → Shared → Prop} {s₁ : Shared} {base g hc : Heap} {env : Env} {outer : List Env} {L e : Addr} {m : PySem.Str → Option Value} {news : List (Addr × Obj)} {ctx : Value} {fl : Option Value} {X T' : String}
  {t : Expr} {b₀ : Stmt} {suite : List Stmt} {pos : Pos} {rest : List ExceptHandler} {Q : Flow → Shared → Prop}
def ExcO (ctx : Value) (o : Obj) : Prop := ∃ vs, o.data = .fields vs ∧ vs[2]? = some ctx
theorem excO_at {h₀ h : Heap} {e : Addr} {oe : Obj} (N : News h₀ L h news) (hm : (e, oe) ∈ news) (x : ExcO ctx oe) : CtxAt h e ctx := by
  obtain ⟨vs, h1, h2⟩ := x
  exact ⟨oe, vs, (N _ hm).1, h1, h2⟩
theorem exc_news {g' h' : Heap} (B : Below A₀ base outer g) (F : Fr g L hc m) (hf : env.frame = some L) (T : KtsTurn (fr outer) g g') (N' : News g' L h' news)
    (U : Up (hideAll hc (fr (env :: outer))) (env :: outer) e (.type X) ctx fl h') : ∃ oe, ExcO ctx oe ∧ News g' L h' ((e, oe) :: news) := by
  obtain ⟨oe, vs, he, _, hd, h2⟩ := U.there
  have nf : e ∉ fr (env :: outer) := fun hm => by
    obtain ⟨o, ho, hdd⟩ := frames_data U.frames e hm
    rw [he] at ho; cases ho
    exact hdd vs hd
  refine ⟨oe, ⟨vs, hd, h2⟩, fun p hp => ?_⟩
  rcases List.mem_cons.mp hp with rfl | hp
  · refine ⟨he, fun z => nf ?_, T.none_ _ ?_⟩
    · show e ∈ _
      rw [show e = L from z, fr_cons hf]; exact .head _
    · show g.get? e = none
      cases q : g.get? e with
      | none => rfl
      | some o =>
        have := hideAll_get (fr (env :: outer)) (F.keep _ _ q) nf
        rw [U.new] at this; cases this
  · exact N' p hp
theorem catch_C (hfr : A.frames = some (env :: outer)) (hf : env.frame = some L) (hke : env.scope.kind = .function) (B : Below A₀ base outer g) (F : Fr g L hc m) (N : News g L hc news) (D : KtsDicts (fr outer) g)
    (U : Up (hideAll hc (fr (env :: outer))) (env :: outer) e (.type X) ctx fl s₁.heap) (hfl : fl = none ∨ fl = some .none ∨ fl = some (rawInt L)) (S : SlotR (fr (env :: outer)) hc s₁.heap)
    (hexc : isSubtype (.type T') (.type "BaseException") = pure true) (hnt : isSubtype (.type ((Manifest.find? T').elim "type" fun x => x.metatype)) (.type "tuple") = pure false)
    (hsub : isSubtype (.type X) (.type T') = pure true)
    (hev : ∀ g' s₂ Q' E', Fr g' L s₂.heap m → Below A₀ base outer g' → Q' (.type T') s₂ → wpAny (model prog w) (A.mark (some (.ref e))) (eval t env) Q' E' s₂)
    (k : ∀ g' h' oe, KtsTurn (fr outer) g g' → Fr g' L h' m → ExcO ctx oe → News g' L h' ((e, oe) :: news) → Below A₀ base outer g' → KtsDicts (fr outer) g' → Up (hideAll hc (fr (env :: outer))) (env :: outer) e (.type X) ctx (some .none) h' → SlotR (fr (env :: outer)) hc h' →
      wpC (model prog w) (A.mark (some (.ref e))) (execs (b₀ :: suite) env) Q (notedBy (model prog w) (A.mark (some (.ref e))) env (cameBackBy (model prog w) A env E)) { s₁ with heap := h' }) :
    wpAny (model prog w) A (noteFrame (.ref e) env) (fun _ s₂ => wpAny (model prog w) A (setFlight (.ref e) none) (fun _ s₃ => wpC (model prog w) A (handleBy (.ref e) env (.ExceptHandler (some t) none (b₀ :: suite) pos :: rest)) Q E s₃) E s₂) E s₁ := by
  have BL := pushX B F hf hke
  refine up_note hfr hf U hfl fun h₂ U₂ k₂ => ?_
  refine up_flight (g := none) U₂ fun h₃ U₃ k₃ => ?_
  have k3 : hc.UpToSlots h₃ := (S.toUp.trans k₂).trans k₃
  have S₃ := slot_of_up BL.frames U₃.stays k3
  obtain ⟨g₃, T₃, F₃, N₃, B₃, D₃⟩ := turn B F N D (fr_cons hf ▸ S₃)
  obtain ⟨oe, vs, he, hcl, _⟩ := U₃.there
  refine C_handle (X := X) hexc hnt hsub (hev g₃ _ _ _ F₃ B₃ ⟨rfl, ⟨oe, he, hcl⟩, ?_⟩)
  refine up_flight (g := none) U₃ fun h₄ U₄ k₄ => ?_
  have S₄ := slot_of_up BL.frames U₄.stays (k3.trans k₄)
  obtain ⟨g₄, T₄, F₄, N₄, B₄, D₄⟩ := turn B F N D (fr_cons hf ▸ S₄)
  obtain ⟨oe, x₄, N₅⟩ := exc_news B F hf T₄ N₄ U₄
  exact k g₄ h₄ oe T₄ F₄ x₄ N₅ B₄ D₄ U₄ S₄
theorem up_new {h h' : Heap} {cls : String} {vs : List Value} (B : Below A₀ base outer g) (F : Fr g L h m) (hf : env.frame = some L) (hke : env.scope.kind = .function) (hm : Heap.MadeExc h h' e cls vs) :
    Up (hideAll h (fr (env :: outer))) (env :: outer) e (.type cls) .none none h' ∧ SlotR (fr (env :: outer)) h h' := by
  have BL := pushX B F hf hke
  refine ⟨up_made (B := hideAll h (fr (env :: outer))) (h := h) (fun b o q => of_hideAll _ q) ?_ (Heap.MadeExc.of hm), .keeps hm.keeps⟩
  exact funFrames_hide BL.frames fun env' he b hb => List.mem_filterMap.mpr ⟨env', he, hb⟩
theorem catch_new {vs : List Value} (hm : Heap.MadeExc hc s₁.heap e X vs) (hfr : A.frames = some (env :: outer)) (hf : env.frame = some L) (hke : env.scope.kind = .function) (B : Below A₀ base outer g) (F : Fr g L hc m) (N : News g L hc news) (D : KtsDicts (fr outer) g)
    (hexc : isSubtype (.type T') (.type "BaseException") = pure true) (hnt : isSubtype (.type ((Manifest.find? T').elim "type" fun x => x.metatype)) (.type "tuple") = pure false)
    (hsub : isSubtype (.type X) (.type T') = pure true)
    (hev : ∀ g' s₂ Q' E', Fr g' L s₂.heap m → Below A₀ base outer g' → Q' (.type T') s₂ → wpAny (model prog w) (A.mark (some (.ref e))) (eval t env) Q' E' s₂)
    (k : ∀ g' h' oe, KtsTurn (fr outer) g g' → Fr g' L h' m → ExcO .none oe → News g' L h' ((e, oe) :: news) → Below A₀ base outer g' → KtsDicts (fr outer) g' → Up (hideAll hc (fr (env :: outer))) (env :: outer) e (.type X) .none (some .none) h' → SlotR (fr (env :: outer)) hc h' →
      wpC (model prog w) (A.mark (some (.ref e))) (execs (b₀ :: suite) env) Q (notedBy (model prog w) (A.mark (some (.ref e))) env (cameBackBy (model prog w) A env E)) { s₁ with heap := h' }) :
    wpAny (model prog w) A (noteFrame (.ref e) env) (fun _ s₂ => wpAny (model prog w) A (setFlight (.ref e) none) (fun _ s₃ => wpC (model prog w) A (handleBy (.ref e) env (.ExceptHandler (some t) none (b₀ :: suite) pos :: rest)) Q E s₃) E s₂) E s₁ := by
  obtain ⟨U, S⟩ := up_new B F hf hke hm
  exact catch_C hfr hf hke B F N D U (.inl rfl) S hexc hnt hsub hev k
end
end Mine
end PartC7

section PartC8
open PySem PySem.W PyProof.Rows PySem.Calls PySem.Spec
set_option linter.all false
set_option maxRecDepth 100000
namespace Mine
section
variable {prog : Program} {w : World} {A : Around} {E : Value → Shared → Prop} {s : Shared}
theorem next_end_under {it t e₁ : Addr} {i : Nat} {items : Array Value} {Q : Option Value → Shared → Prop} (hh : A.handled = some (.ref e₁)) (hc : CtxAt s.heap e₁ .none) (hne : e₁ ≠ it)
    (hit : s.heap.IsTupleIter it t i) (ht : s.heap.IsTuple t items) (hx : items[i]? = none)
    (hQ : ∀ h', Heap.ExtBut it s.heap h' → Q none { s with heap := h' }) : wpAny (model prog w) A (pyNext (.ref it)) Q E s := by
  obtain ⟨o, ho, hcl, hd⟩ := id hit
  obtain ⟨ol, hol, _, nl, hdl⟩ := ht
  unfold pyNext
  refine wpAny_bind (wpAny_attempt (wpAny_callSpecial?_slot (name := PySem.Str.ofString "__next__") hit.typeIs F.slot_tuple_iterator_next
    (wpAny_call_entry F.slot_tuple_iterator_next hit.typeIs F.entry_tuple_iterator_next ?_ (F.args_tuple_iterator_next_1 _))))
  show wpAny _ _ (field (.ref it) 0 >>= _) _ _ s
  refine wpAny_bind (wpAny_field ho hd (x := .ref t) rfl ?_)
  show wpAny _ _ (if (Value.ref t == Value.none) = true then _ else _) _ _ s
  rw [if_neg (show ¬ ((Value.ref t == Value.none) = true) from Bool.false_ne_true)]
  show wpAny _ _ (field (.ref it) 1 >>= _) _ _ s
  refine wpAny_bind (wpAny_field ho hd (x := .int i 0) rfl ?_)
  show wpAny _ _ (seqItems? (.ref t) >>= _) _ _ s
  refine wpAny_bind (wpAny_seqItems hol hdl ?_)
  simp only [Int.toNat_natCast, hx]
  refine wpAny_bind (wpAny_rule (wpAny_bind (wpAny_setField ho hd (by simp) ?_)))
  show wpAny _ _ (newExc (.type "StopIteration") [] >>= _) _ _ _
  refine wpAny_bind ?_
  simp only [newExc, newTuple]
  refine wpAny_bind (wpAny_newObj_type ?_ (by size_fits))
  refine wpAny_bind (m := firstArgMember _ _) (wpAny_of_eq (a := Value.none) (by first | rfl | (simp only [firstArgMember]; rfl)) ?_)
  refine wpAny_newObj_type ?_ (by size_fits)
  have up : Heap.ExtBut it s.heap (s.heap.update it (Obj.mapFields (·.setIfInBounds 0 .none))) := (Heap.SameBut.update ..).extBut
  have hsz : (s.heap.update it (Obj.mapFields (·.setIfInBounds 0 .none))).objs.size = s.heap.objs.size := Heap.size_after_update ..
  generalize hg : s.heap.update it (Obj.mapFields (·.setIfInBounds 0 .none)) = g at up hsz ⊢
  obtain ⟨oc, vs, hoc, hdc, h2⟩ := hc
  have k1 := up e₁ oc hne hoc
  have k2 := Heap.get?_push_of_some { cls := .type "tuple", dict := none, data := .seq [].toArray } k1
  refine raise_under (l := []) (B := s.heap.hide it) (cls := .type "StopIteration") hh ⟨fun b o' q => ?_, ?_, trivial, ?_⟩ ?_ (.inl ⟨oc, vs, Heap.get?_push_of_some _ k2, hdc, h2⟩) (fun h' U' k' => ?_)
  · have q1 : b ≠ it := fun z => by rw [z, Heap.hide_self] at q; cases q
    exact Heap.get?_push_of_some _ (Heap.get?_push_of_some _ (up b o' q1 (Heap.of_hide q)))
  · refine Heap.get?_none_of_le ?_
    rw [Heap.hide_size, Heap.size_push, hsz]
    exact Nat.le_succ _
  · exact ⟨_, _, Heap.get?_push_size _ rfl, rfl, rfl, rfl, rfl⟩
  · exact Nat.ne_of_lt (Heap.lt_size k2)
  · obtain ⟨oe, ws, he, hcl, _⟩ := U'.there
    refine wpAny_bind (wpAny_isInstance (T := "StopIteration") (b := true) ⟨_, he, hcl⟩ isSubtype_stop ?_)
    refine wpAny_pure (hQ _ fun b o' hb q => k' b o' ?_ (Heap.get?_push_of_some _ (Heap.get?_push_of_some _ (up b o' hb q))))
    exact Nat.ne_of_lt (Nat.lt_of_lt_of_le (Heap.lt_size (up b o' hb q)) (by simp))
theorem unpack_under {t e₁ : Addr} {items : Array Value} {Q : List Value → Shared → Prop} (hh : A.handled = some (.ref e₁)) (hc : CtxAt s.heap e₁ .none) (ht : s.heap.IsTuple t items)
    (hQ : ∀ h', Heap.ExtBut s.heap.objs.size s.heap h' → Q items.toList { s with heap := h' }) : wpAny (model prog w) A (unpackItems (.ref t) items.size none) Q E s := by
  have hlt : t ≠ s.heap.objs.size := by obtain ⟨o, ho, _⟩ := ht; exact Nat.ne_of_lt (Heap.lt_size ho)
  obtain ⟨oc, vs, hoc, hdc, h2⟩ := hc
  have hlc : e₁ ≠ s.heap.objs.size := Nat.ne_of_lt (Heap.lt_size hoc)
  unfold unpackItems notIterableAtAll
  refine wpAny_bind ?_
  refine wpAny_bind (wpAny_specialOf ht.typeIs F.slot_tuple_iter.lookup ?_)
  refine wpAny_pure ?_
  simp only [Bool.false_eq_true, if_false]
  refine wpAny_bind (wpAny_holding (wpAny_pyIter_tuple ht ?_))
  refine wpAny_bind (wpAny_holding (wpAny_draw_tuple hlt items.size 0 _ _ ⟨_, Heap.get?_push_size _ rfl, rfl, rfl⟩ (ht.push _) (by omega) fun h₁ hit₁ hs₁ => ?_))
  have hall : List.take items.size (List.drop 0 items.toList) = items.toList := by
    rw [List.drop_zero]; exact List.take_of_length_le (by simp)
  rw [hall, if_neg (by simp)]
  refine wpAny_bind (wpAny_holding (next_end_under hh ⟨oc, vs, hs₁.extBut _ _ hlc (Heap.get?_push_of_some _ hoc), hdc, h2⟩ hlc hit₁ ((ht.push _).extBut hs₁.extBut hlt) (by simp) fun h₂ he₂ => ?_))
  simp only [Option.isSome_none, Bool.false_eq_true, if_false]
  exact wpAny_pure (hQ h₂ fun b o hb q => he₂ b o hb (hs₁.extBut b o hb (Heap.get?_push_of_some _ q)))
theorem unpack_K {h₀ : Heap} {L : Addr} {m : PySem.Str → Option Value} {news : List (Addr × Obj)} {D e₁ : Addr} {oD oe : Obj} {a b : Value} {Q : List Value → Shared → Prop} (F : Fr h₀ L s.heap m) (N : News h₀ L s.heap news) (hD : (D, oD) ∈ news) (hcl : oD.cls = .type "tuple") (hdt : oD.data = .seq #[a, b]) (hh : A.handled = some (.ref e₁)) (he : (e₁, oe) ∈ news) (x : ExcO .none oe)
    (h : ∀ h', Fr h₀ L h' m → News h₀ L h' news → Q [a, b] { s with heap := h' }) : wpAny (model prog w) A (unpackItems (.ref D) 2 none) Q E s := by
  refine unpack_under (items := #[a, b]) hh (excO_at N he x) ⟨oD, (N _ hD).1, hcl, _, hdt⟩ fun h' k => h h' ?_ ?_
  · exact F.extBut k (Nat.le_refl _)
  · exact fun p hp => ⟨k _ _ (Nat.ne_of_lt (Heap.lt_size (N p hp).1)) (N p hp).1, (N p hp).2⟩
end
section
variable {prog : Program} {w : World} {A₀ A A' : Around} {E : Value → Shared → Prop} {s₁ : Shared} {base g hc : Heap} {env : Env} {outer : List Env} {L e e₁ : Addr} {m : PySem.Str → Option Value} {news : List (Addr × Obj)} {X T' : String}
  {t : Expr} {b₀ : Stmt} {suite : List Stmt} {pos : Pos} {rest : List ExceptHandler} {Q : Flow → Shared → Prop}
def Chain (h : Heap) (a : Addr) : Prop := CtxAt h a .none ∨ ∃ b, CtxAt h a (.ref b) ∧ b ≠ a ∧ CtxAt h b .none
theorem CtxAt.keeps {h h' : Heap} {a : Addr} {v : Value} (x : CtxAt h a v) (k : ∀ b o, h.get? b = some o → h'.get? b = some o) : CtxAt h' a v := by
  obtain ⟨o, vs, h1, h2, h3⟩ := x
  exact ⟨o, vs, k _ _ h1, h2, h3⟩
theorem raise_new_under {α : Type} {E₂ : Value → Shared → Prop} {P : α → Shared → Prop} {vs : List Value} (hm : Heap.MadeExc hc s₁.heap e X vs) (hh : A'.handled = some (.ref e₁)) (hch : Chain hc e₁)
    (hf : env.frame = some L) (hke : env.scope.kind = .function) (B : Below A₀ base outer g) (F : Fr g L hc m)
    (k : ∀ h', Up (hideAll hc (fr (env :: outer))) (env :: outer) e (.type X) (.ref e₁) none h' → SlotR (fr (env :: outer)) hc h' → E₂ (.ref e) { s₁ with heap := h' }) :
    wpAny (model prog w) A' (raiseNew (.ref e) : Sem α) P E₂ s₁ := by
  obtain ⟨U, S⟩ := up_new B F hf hke hm
  have ne : ∀ b o, hc.get? b = some o → b ≠ e := fun b o q z => by rw [z, hm.new] at q; cases q
  have at_ne : ∀ {b v}, CtxAt hc b v → b ≠ e := fun x => let ⟨o, _, q, _⟩ := x; ne _ o q
  refine raise_under hh U ?_ ?_ fun h' U' k' => k h' U' (.keeps fun b o q => k' b o (ne b o q) (hm.keeps b o q))
  · rcases hch with x | ⟨b, x, _⟩ <;> exact at_ne x
  · rcases hch with x | ⟨b, x, nb, y⟩
    · exact .inl (x.keeps hm.keeps)
    · exact .inr ⟨b, x.keeps hm.keeps, at_ne y, nb, y.keeps hm.keeps⟩
theorem raise_catch {α : Type} {vs : List Value} {P : α → Shared → Prop} (hm : Heap.MadeExc hc s₁.heap e X vs) (hh : A'.handled = some (.ref e₁)) (hch : Chain hc e₁)
    (hfr : A.frames = some (env :: outer)) (hf : env.frame = some L) (hke : env.scope.kind = .function) (B : Below A₀ base outer g) (F : Fr g L hc m) (N : News g L hc news) (D : KtsDicts (fr outer) g)
    (hexc : isSubtype (.type T') (.type "BaseException") = pure true) (hnt : isSubtype (.type ((Manifest.find? T').elim "type" fun x => x.metatype)) (.type "tuple") = pure false)
    (hsub : isSubtype (.type X) (.type T') = pure true)
    (hev : ∀ g' s₂ Q' E', Fr g' L s₂.heap m → Below A₀ base outer g' → Q' (.type T') s₂ → wpAny (model prog w) (A.mark (some (.ref e))) (eval t env) Q' E' s₂)
    (k : ∀ g' h' oe, KtsTurn (fr outer) g g' → Fr g' L h' m → ExcO (.ref e₁) oe → News g' L h' ((e, oe) :: news) → Below A₀ base outer g' → KtsDicts (fr outer) g' → Up (hideAll hc (fr (env :: outer))) (env :: outer) e (.type X) (.ref e₁) (some .none) h' → SlotR (fr (env :: outer)) hc h' →
      wpC (model prog w) (A.mark (some (.ref e))) (execs (b₀ :: suite) env) Q (notedBy (model prog w) (A.mark (some (.ref e))) env (cameBackBy (model prog w) A env E)) { s₁ with heap := h' }) :
    wpAny (model prog w) A' (raiseNew (.ref e) : Sem α) P (fun e' s' => wpAny (model prog w) A (noteFrame e' env) (fun _ s₂ => wpAny (model prog w) A (setFlight e' none) (fun _ s₃ => wpC (model prog w) A (handleBy e' env (.ExceptHandler (some t) none (b₀ :: suite) pos :: rest)) Q E s₃) E s₂) E s') s₁ :=
  raise_new_under hm hh hch hf hke B F fun h' U' S' => catch_C (s₁ := { s₁ with heap := h' }) hfr hf hke B F N D U' (.inl rfl) S' hexc hnt hsub hev k
theorem raise_new_at {α : Type} {E₂ : Value → Shared → Prop} {P : α → Shared → Prop} {vs : List Value} {Bx hx : Heap} {ex : Addr} {cx tx : Value} {fx : Option Value} (_ : Up Bx (env :: outer) ex cx tx fx hx) (hm : Heap.MadeExc hc s₁.heap e X vs) (hh : A'.handled = some (.ref e₁)) (hch : Chain hc e₁)
    (hf : env.frame = some L) (hke : env.scope.kind = .function) (B : Below A₀ base outer g) (F : Fr g L hc m)
    (k : ∀ h', hc.FunFrames base (env :: outer) → Up (hideAll hc (fr (env :: outer))) (env :: outer) e (.type X) (.ref e₁) none h' → SlotR (fr (env :: outer)) hc h' → E₂ (.ref e) { s₁ with heap := h' }) :
    wpAny (model prog w) A' (raiseNew (.ref e) : Sem α) P E₂ s₁ :=
  raise_new_under hm hh hch hf hke B F fun h' => k h' (pushX B F hf hke).frames
end
end Mine
end PartC8

section PartC9
open PySem PySem.W PyProof.Rows PySem.Calls PySem.Spec
set_option linter.all false
set_option maxRecDepth 100000
namespace Mine
theorem strs_showable : ∀ l : List PySem.Str, PyData.showableAll (l.map PyData.str) = true
  | [] => rfl
  | x :: r => by simp only [List.map_cons, PyData.showableAll, PyData.showable, strs_showable r, Bool.and_self]
theorem strs_hasDict : ∀ l : List PySem.Str, PyData.hasDictAll (l.map PyData.str) = false
  | [] => rfl
  | x :: r => by simp only [List.map_cons, PyData.hasDictAll, PyData.hasDict, strs_hasDict r, Bool.or_self]
theorem strs_depth : ∀ l : List PySem.Str, PyData.depthAll (l.map PyData.str) ≤ 1
  | [] => by simp [PyData.depthAll]
  | x :: r => by
    have := strs_depth r
    simp only [List.map_cons, PyData.depthAll, PyData.depth]
    omega
theorem strs_data (l : List PySem.Str) : (PyData.list (l.map PyData.str)).showable = true ∧ (PyData.list (l.map PyData.str)).hasDict = false ∧ (PyData.list (l.map PyData.str)).depth ≤ 2 := by
  refine ⟨by simp only [PyData.showable, strs_showable], by simp only [PyData.hasDict, strs_hasDict], ?_⟩
  have := strs_depth l
  simp only [PyData.depth]
  omega
theorem frKept {h₀ h h' : Heap} {L : Addr} {m : PySem.Str → Option Value} (F : Fr h₀ L h m) (k : ∀ b o, h.get? b = some o → h'.get? b = some o) : Fr h₀ L h' m :=
  ⟨(SlotR.keeps (Fs := []) k).ns F.ns, fun b o q => k b o (F.keep b o q), F.above⟩
theorem newsKept {h₀ h h' : Heap} {L : Addr} {news : List (Addr × Obj)} (N : News h₀ L h news) (k : ∀ b o, h.get? b = some o → h'.get? b = some o) : News h₀ L h' news := fun p hp => ⟨k _ _ (N p hp).1, (N p hp).2⟩
section
variable {prog : Program} {w : World} {M' : Model} {A : Around} {E : Value → Shared → Prop} {s : Shared} {env : Env}
theorem formatOf_reads {h₀ : Heap} {a : Addr} {d : PyData} {as : List Addr} {Q : Value → Shared → Prop} (r : Reads h₀ (.ref a) d as) (hs : d.showable = true) (hsm : d.hasDict = true → sysModules ∉ as) (hg : A.guards = some []) (hu : A.units + (d.depth + 2) < cLine) (hk0 : ∀ b o, h₀.get? b = some o → s.heap.get? b = some o)
    (hQ : ∀ h' u tk, (∀ b o, s.heap.get? b = some o → h'.get? b = some o) → Q (.str d.shown u) { s with heap := h', toks := tk })
    (hsz : d.shown.length ≤ sizeLine) : wpAny (model prog w) A (Builtin.Str.formatOf (.ref a) PySem.Str.empty) Q E s := by
  obtain ⟨T, idr, S⟩ := showsBy_of_reads (prog := prog) (w := w) r hs hsm hsz
  have hT := S.typeIs { s with toks := s.toks + 1 } hk0
  unfold Builtin.Str.formatOf
  refine wpAny_ite ?_
  rw [if_neg (show ¬ ((PySem.Str.empty.length == 0 && Builtin.Str.isExactStr (.ref a)) = true) from by rw [show Builtin.Str.isExactStr (.ref a) = false from rfl, Bool.and_false]; exact Bool.false_ne_true)]
  refine wpAny_bind (wpAny_mkStr ?_ (by decide))
  refine wpAny_bind (m := callSpecial? (.ref a) (PySem.Str.ofString "__format__") [.str PySem.Str.empty s.toks]) (wpAny_callSpecial?_slot (name := PySem.Str.ofString "__format__") hT S.slotFmt
    (call_object_format_slot (fun _ _ => nofun) (by omega) hT S.slotFmt S.slotStr S.slotRepr
      (S.call A.in1.in1 E { s with toks := s.toks + 1 } _ hg (by show A.units + 1 + 1 + d.depth < cLine; omega) hk0 fun h' u tk hk => ⟨_, _, rfl, ?_⟩)))
  refine wpAny_bind (wpAny_of_eq (a := some d.shown) rfl ?_)
  refine wpAny_ite ?_
  rw [if_neg (show ¬ ((some d.shown).isNone = true) from by simp)]
  exact wpAny_pure (hQ h' u tk hk)
theorem fmt_call {a : Addr} {d : PyData} {as : List Addr} {t : Tok} {Q : Value → Shared → Prop} (r : Reads s.heap (.ref a) d as) (hs : d.showable = true) (hsm : d.hasDict = true → sysModules ∉ as) (hg : A.guards = some []) (hu : A.units + (d.depth + 10) < cLine)
    (hsz : d.shown.length ≤ 2000)
    (hQ : ∀ h' x u tk, (∀ b o, s.heap.get? b = some o → h'.get? b = some o) → Q (.str x u) { s with heap := h', toks := tk }) :
    wpAny (model prog w) A (call (.builtin "str.format") [.str (PySem.Str.ofString "Unable to determine replication factor from: {}") t, .ref a]) Q E s := by
  refine wpAny_call_entry F.slot_str_format_m (typeIs_str s _ t) F.entry_str_format_m ?_ (KFm.args_2 _ _)
  unfold Builtin.«str.format»
  refine wpAny_bind (wpAny_of_eq (a := (_, _, _)) rfl ?_)
  refine wpAny_bind ?_
  unfold Builtin.Str.buildString
  refine wpAny_bind ?_
  rw [KPc.range_list]
  refine KFm.start ?_
  intro _ _
  refine KPc.turn ?_
  kpc_if
  kpc_check
  refine wpAny_bind (KFm.field_auto (by kfm_num) (by rfl) ?_)
  refine wpAny_bind (wpAny_holding (wpAny_of_eq (a := _) rfl ?_))
  kpc_if
  refine wpAny_bind (wpAny_pure ?_)
  refine wpAny_bind (wpAny_holding (formatOf_reads r hs hsm hg (by show A.units + 1 + (d.depth + 2) < cLine; omega) (fun _ _ q => q) (fun h' u tk hk => ?_) (Nat.le_trans hsz (by rw [sizeLine_eq]; omega))))
  refine wpAny_bind (wpAny_of_eq (a := some _) rfl ?_)
  refine wpAny_pure ?_
  refine KFm.after_field (K := 2000) (by kpc_g) (by kpc_text) (by kpc_obj) hsz (by kpc_obj) (by kfm_cat2) (by kfm_rest) ?_
  intro w2 g2
  refine KPc.turn ?_
  kpc_if
  refine wpAny_pure ?_
  refine wpAny_pure ?_
  refine KPc.finish_ok (by kpc_g) (by decide +kernel) (by first | kpc_text | exact rfl) ?_
  exact fun t' k => ⟨_, rfl, hQ h' _ t' k hk⟩
theorem raiseStmt_by {cls : String} (F : ExcRaiseFacts cls) {x : Sem Value} {Q : Flow → Shared → Prop}
    (h : wpAny M' A x (fun v s₁ => ∃ e t, v = .ref e ∧ s₁.heap.get? e = some { cls := .type cls, data := .fields #[.ref t, .none, .none, .none, .bool false, .none] } ∧ wpAny M' A (raiseNew (.ref e) : Sem Flow) Q E s₁) E s) :
    wpAny M' A (raiseStmt env (some x) none) Q E s := by
  unfold raiseStmt
  refine wpAny_bind (wpAny_mono h (fun v s₁ h₁ => ?_) fun _ _ x => x)
  obtain ⟨e, t, rfl, he, hE⟩ := h₁
  obtain ⟨hp, g, d, tk, os⟩ := s₁
  have hsub := F.isExc
  have hmeta := F.plainMeta
  repeat (first | refine wpAny_loadPart he ?_ | wp_step)
  exact hE
theorem raise_by {cls newId initId : String} (F : ExcCallFacts cls newId initId) (G : ExcRaiseFacts cls) {x : PySem.Str} {np cpos pos : Pos} {args : List Expr} {Q : Flow → Shared → Prop}
    (hplain : (backTo cpos (starEach args env)).any (·.1) = false)
    (h : wpAny (model prog w) A (eval (.Name x np) env) (fun f s₁ => f = .type cls ∧ wpAny (model prog w) A (evalArgs (.type cls) true (backTo cpos (starEach args env)) [])
      (fun a s₂ => a.kw = [] ∧ a.pos.length ≤ sizeLine ∧ ∀ h' e, Heap.MadeExc s₂.heap h' e cls a.pos → wpAny (model prog w) A (raiseNew (.ref e) : Sem Flow) Q E { s₂ with heap := h' }) E s₁) E s) :
    wpAny (model prog w) A (exec (.Raise (some (.Call (.Name x np) args [] cpos)) none pos) env) Q E s := by
  show wpAny _ A (do standAt pos; raiseStmt env (some (do let v ← eval (.Call (.Name x np) args [] cpos) env; standAt pos; pure v)) none) Q E s
  refine wpAny_bind (wpAny_standAt (raiseStmt_by G (wpAny_bind (wpAny_mono ?_ (fun v s₁ h₁ => wpAny_bind (wpAny_standAt (wpAny_pure h₁))) fun _ _ x => x))))
  refine wpAny_Call_ofName (wpAny_mono h (fun f s₁ h₁ => ?_) fun _ _ x => x)
  obtain ⟨rfl, h₁⟩ := h₁
  refine callWith_excType hplain (wpAny_mono h₁ (fun a s₂ h₂ => ?_) fun _ _ x => x)
  obtain ⟨apos, akw⟩ := a
  obtain ⟨hkw, hlen, h₂⟩ := h₂
  obtain rfl : akw = [] := hkw
  obtain ⟨hp, g, d, tk, os⟩ := s₂
  refine wpAny_call_exc F (hrest := hlen) fun h' e hm => ?_
  obtain ⟨t, ht, _, _⟩ := hm.there
  exact ⟨e, t, rfl, ht, h₂ h' e hm⟩
theorem raise_by1 {cls newId initId : String} (F : ExcCallFacts cls newId initId) (G : ExcRaiseFacts cls) {x : PySem.Str} {np cpos pos : Pos} {e₀ : Expr} {Q : Flow → Shared → Prop}
    (h : wpAny (model prog w) A (eval (.Name x np) env) (fun f s₁ => f = .type cls ∧ wpAny (model prog w) A (spliced (backTo cpos (starEach [e₀] env)))
      (fun vs s₂ => vs.length ≤ sizeLine ∧ ∀ h' e, Heap.MadeExc s₂.heap h' e cls vs → wpAny (model prog w) A (raiseNew (.ref e) : Sem Flow) Q E { s₂ with heap := h' }) E s₁) E s)
    (hs : starEach [e₀] env = [(false, eval e₀ env)] := by rfl) :
    wpAny (model prog w) A (exec (.Raise (some (.Call (.Name x np) [e₀] [] cpos)) none pos) env) Q E s := by
  refine raise_by F G (by rw [hs]; rfl) (wpAny_mono h (fun f s₁ h₁ => ⟨h₁.1, ?_⟩) fun _ _ x => x)
  have h₂ := h₁.2
  rw [hs] at h₂ ⊢
  exact evalArgs_plain (wpAny_mono h₂ (fun vs s₂ h₃ => ⟨rfl, h₃.1, h₃.2⟩) fun _ _ x => x)
end
end Mine
end PartC9

section PartC10
open PySem PySem.W PyProof.Rows PySem.Calls PySem.Spec
set_option linter.all false
set_option maxRecDepth 100000
set_option maxHeartbeats 1000000
namespace Mine
section
variable {prog : Program} {w : World} {A : Around} {K : Frag} {C : Addr} {R : Result → Shared → Prop} {s : Shared}
theorem codeC_call_check {id : String} {args : Args} (hq : (Code.builtin id args).quiet = true)
    (h : wpAny (model prog w) A.in1 (checkBuiltinCall id args) (fun _ s₁ => codeC (model prog w) A (.builtin id args) R s₁) (fun e s' => R (.error e) s') s) : codeC (model prog w) A (.call (.builtin id) args) R s := by
  refine codeC_of_tree ?_
  show wpC _ A.in1 (do checkBuiltinCall id args; again (.builtin id args)) _ _ s
  exact wpC_cut (wpAny_mono h (fun _ s₁ h₁ => wpC_pure (And.intro hq h₁)) fun _ _ x => x)
theorem make_C {rest : List Value} {h : Heap} {g : Array GenState} {d : Drawn} {t : Nat} {os : OsState} {init : Value} (Y : Makes (model prog w) h C) (hi : Looks (model prog w) h (typeLookup (.ref C) "__init__") (some init))
    (hb : ∀ self, Looks (model prog w) h (bindSpecial init self) (init, [self])) (hne : (some init != some (Value.builtin "object.__init__")) = true)
    (hq : codeC (model prog w) (A.under (.builtin "type.__call__" ⟨.ref C :: rest, []⟩)) (.call init ⟨.ref (h.objs.size + 1) :: rest, []⟩) (InitBack (h.objs.size + 1) R) ⟨(h.push emptyDict).push (instObj C h.objs.size), g, d, t, os⟩) :
    codeC (model prog w) A (.call (.ref C) ⟨rest, []⟩) R ⟨h, g, d, t, os⟩ := by
  have Y' := Y
  obtain ⟨⟨oc, od, cd, sl, hC, e1, e2, e4⟩, made, base, self, top, call, typ⟩ := Y
  refine codeC_of_tree ?_
  show wpC _ _ (callAny (.ref C) _) _ _ _
  refine wpC_of ?_
  refine nd_load hC ?_
  show wpAny _ _ (callAny.viaDunder (.ref C) _) _ _ _
  unfold callAny.viaDunder
  refine wpAny_bind (call.at ?_)
  dsimp only
  rw [tc_bind]
  refine wpAny_bind (wpAny_pure (wpAny_bind (wpAny_pure ?_)))
  refine wpAny_pure (a := Fin.again (.call (.builtin "type.__call__") ⟨.ref C :: rest, []⟩)) (And.intro rfl ?_)
  refine codeC_call_check (Code.quiet_builtin _ (by decide +kernel)) (check_slot tc_kind tc_split typ (tc_args _ _ _) ?_)
  refine codeC_builtin entry_typeCall ?_
  unfold Builtin.«type.__call__»
  have hm : Looks (model prog w) h (mroOf (.ref C)) cd.mro := ((Looks.ld (part := none) hC).andThen .now).andThen .now
  simp only [show (Value.ref C == Value.type "type") = false from rfl, Bool.false_eq_true, if_false]
  refine wpC_cut (hm.here ?_)
  simp only [e4, Bool.false_eq_true, if_false]
  refine wpC_cut (made.here ?_)
  dsimp only
  rw [pure_bind]
  refine wpC_bind (wpC_holding (wpC_of (wpAny_call (new_K Y' hi (.inl hne) ?_))))
  have k : ∀ b o, h.get? b = some o → ((h.push emptyDict).push (instObj C h.objs.size)).get? b = some o := fun b o e => Heap.get?_push_of_some _ (Heap.get?_push_of_some _ e)
  have hx : ((h.push emptyDict).push (instObj C h.objs.size)).get? (h.objs.size + 1) = some (instObj C h.objs.size) := by heap_get
  have t1 : Looks (model prog w) ((h.push emptyDict).push (instObj C h.objs.size)) (typeOf (.ref (h.objs.size + 1))) (.ref C) := (Looks.ld hx).andThen .now
  have s1 := self.keeps k
  have i1 := hi.keeps k
  have b1 := (hb (.ref (h.objs.size + 1))).keeps k
  dsimp only
  have ii : Looks (model prog w) ((h.push emptyDict).push (instObj C h.objs.size)) (isInstance (.ref (h.objs.size + 1)) (.ref C)) true := t1.andThen (f := fun t => isSubtype t (.ref C)) s1
  refine wpC_cut (ii.here ?_)
  simp only [Bool.not_true, Bool.false_eq_true, if_false]
  have sp : Looks (model prog w) ((h.push emptyDict).push (instObj C h.objs.size)) (specialOf (.ref (h.objs.size + 1)) "__init__") (some init) := t1.andThen (f := fun t => typeLookup t "__init__") i1
  unfold callSpecial?
  refine wpC_bind (wpC_holding (wpC_cut (sp.here ?_)))
  dsimp only
  refine wpC_holding (wpC_cut (b1.here ?_))
  dsimp only
  refine wpC_bind (wpC_call (codeC_mono hq fun r s' z => ?_))
  rcases r with e | (v | _ | _ | _) <;> first | exact z | exact z.elim | skip
  obtain ⟨rfl, z⟩ := z
  refine wpC_pure ?_
  dsimp only
  exact wpC_pure z
theorem make_KC {rest : List Value} {fI : Addr} {h₀ : Heap} {L : Addr} {m : PySem.Str → Option Value} {news : List (Addr × Obj)} (F : Fr h₀ L s.heap m) (N : News h₀ L s.heap news) (X : K.In s.heap) (hm : makesIn K C = true)
    (hi : findIn K (.ref C) "__init__" = some (some (.ref fI))) (hf : isFn K (.ref fI) = true)
    (h : ∀ x dx h', Fr h₀ L h' m → News h₀ L h' ((x, instObj C dx) :: (dx, dictOf [] 0) :: news) → (∀ p ∈ news, p.1 < dx) → dx < x → (∀ b o, s.heap.get? b = some o → h'.get? b = some o) → s.heap.get? dx = none → s.heap.get? x = none →
      codeC (model prog w) (A.under (.builtin "type.__call__" ⟨.ref C :: rest, []⟩)) (.call (.ref fI) ⟨.ref x :: rest, []⟩) (InitBack x R) { s with heap := h' }) :
    codeC (model prog w) A (.call (.ref C) ⟨rest, []⟩) R s := by
  obtain ⟨hh, g, d, t, os⟩ := s
  refine make_C (makes_of X hm) (looks_findIn X hi) (fun self => bind_fn X self (beq_iff_eq.mp hf)) rfl (h _ hh.objs.size _ ((F.push _).push _) ?_ (fun p hp => Heap.lt_size (N p hp).1) (Nat.lt_succ_self _) (fun b o e => Heap.get?_push_of_some _ (Heap.get?_push_of_some _ e)) (Heap.get?_none_of_le (Nat.le_refl _)) (Heap.get?_none_of_le (Nat.le_succ _)))
  have := (N.push F emptyDict).push (F.push _) (instObj C hh.objs.size)
  rwa [Heap.size_push] at this
end
end Mine
end PartC10

section PartC11
open PySem PySem.W PyProof.Rows PySem.Calls PySem.Spec
set_option linter.all false
set_option maxRecDepth 100000
namespace Mine
def Fresh (h h' : Heap) (l : List (Addr × Obj)) : Prop := ∀ p ∈ l, h.get? p.1 = none ∧ h'.get? p.1 = some p.2
section
variable {Fs : List Addr} {h h1 h' g' h₀ : Heap} {L L' : Addr} {m m' : PySem.Str → Option Value} {news l : List (Addr × Obj)} {as : List Addr}
theorem SlotR.back (S : SlotR Fs h h1) {a : Addr} (n : h1.get? a = none) : h.get? a = none := by
  cases q : h.get? a with
  | none => rfl
  | some o => obtain ⟨sl, e⟩ := S.up q; rw [n] at e; cases e
theorem Fresh.nil : Fresh h h' [] := fun _ hp => nomatch hp
theorem Fresh.cons {p : Addr × Obj} (n : h.get? p.1 = none) (e : h'.get? p.1 = some p.2) (x : Fresh h h' l) : Fresh h h' (p :: l) := fun q hq => by
  rcases List.mem_cons.mp hq with rfl | hq
  · exact ⟨n, e⟩
  · exact x q hq
theorem Fresh.back (S : SlotR Fs h h1) (x : Fresh h1 h' l) : Fresh h h' l := fun p hp => ⟨S.back (x p hp).1, (x p hp).2⟩
theorem Fresh.ledger {fs : List Addr} (x : Fresh h h' l) (F : Fr h₀ L h m) (T : KtsTurn fs h₀ g') (N' : News g' L h' news) : News g' L h' (l ++ news) := fun p hp => by
  rcases List.mem_append.mp hp with hp | hp
  · obtain ⟨n, e⟩ := x p hp
    refine ⟨e, fun z => ?_, T.none_ _ ?_⟩
    · obtain ⟨o, es, ep, ho, _⟩ := F.ns
      rw [← z, n] at ho; cases ho
    · cases q : h₀.get? p.1 with
      | none => rfl
      | some o => rw [F.keep _ _ q] at n; cases n
  · exact N' p hp
theorem exit_slot2 (k : ∀ b o, h.get? b = some o → h1.get? b = some o) (T : KtsTurn Fs (hideAll h1 as) g') (F : Fr g' L' h' m') (N0 : ∀ p ∈ news, h.get? p.1 = some p.2) (N' : News g' L' h' news) (has : ∀ b ∈ as, b ∈ news.map (·.1) ∨ h.get? b = none) : SlotR Fs h h' := fun b o q => by
  by_cases mem : b ∈ news.map (·.1)
  · obtain ⟨p, hp, rfl⟩ := List.mem_map.mp mem
    have e := N0 p hp
    rw [q] at e; cases e
    exact ⟨fun _ => (N' p hp).1, fun _ => ⟨p.2.slots, (N' p hp).1⟩⟩
  · have na : b ∉ as := fun z => by
      rcases has b z with z | z
      · exact mem z
      · rw [q] at z; cases z
    have q' := hideAll_get _ (k _ _ q) na
    exact ⟨fun n => F.keep _ _ (T.other b o q' n), fun mm => by
      obtain ⟨sl, hs⟩ := T.frame b o q' mm
      exact ⟨sl, F.keep _ _ hs⟩⟩
theorem Up.outer {B h : Heap} {l l' : List Env} {e : Addr} {cls ctx : Value} {fl : Option Value} (U : Up B (l ++ l') e cls ctx fl h) : Up B l' e cls ctx fl h := by
  refine ⟨U.stays, U.new, ?_, U.trc⟩
  have := U.frames
  clear U
  induction l with
  | nil => exact this
  | cons a r ih => exact ih this.2.2
theorem Up.back {h h1 h' : Heap} {l : List Env} {e : Addr} {cls ctx : Value} {fl : Option Value} {Fs Fs' : List Addr} (U : Up (hideAll h1 Fs') l e cls ctx fl h') (S : SlotR Fs h h1) (k : ∀ b ∈ Fs', b ∈ Fs ∨ h.get? b = none) : Up (hideAll h Fs) l e cls ctx fl h' :=
  U.weaken fun b o q => by
    have q1 := of_hideAll _ q
    have nb : b ∉ Fs := fun z => by rw [hideAll_none _ z] at q; cases q
    refine hideAll_get _ ((S b o q1).1 nb) fun z => ?_
    rcases k b z with z | z
    · exact nb z
    · rw [q1] at z; cases z
end
theorem leave_err {M : Model} {A A' : Around} {E : Value → Shared → Prop} {s₁ : Shared} {base g h h₁ : Heap} {env' : Env} {outer' : List Env} {L' e : Addr} {m' : PySem.Str → Option Value} {cls ctx : Value} {Q : Unit → Shared → Prop}
    (B' : Below A base outer' g) (F' : Fr g L' h₁ m') (hf : env'.frame = some L') (hke : env'.scope.kind = .function) (hfr : A'.frames = some (env' :: outer'))
    {fl : Option Value} (U : Up (hideAll h₁ (L' :: fr outer')) (env' :: outer') e cls ctx fl s₁.heap) (hfl : fl = none ∨ fl = some .none ∨ fl = some (rawInt L')) (S : SlotR (L' :: fr outer') h₁ s₁.heap) (k0 : ∀ b o, h.get? b = some o → h₁.get? b = some o) (n : h.get? L' = none)
    (hQ : ∀ h4, Up (hideAll h (fr outer')) outer' e cls ctx (some .none) h4 → SlotR (fr outer') h h4 → Q () { s₁ with heap := h4 }) : wpAny M A' (leaving env' (.ref e)) Q E s₁ := by
  refine up_leaving hfr hf U hfl fun h4 U4 k4 => ?_
  have ff := (pushX B' F' hf hke).frames
  have e1 : fr (env' :: outer') = L' :: fr outer' := fr_cons hf
  have S4 : SlotR (L' :: fr outer') h₁ h4 := e1 ▸ slot_of_up ff (e1 ▸ U4.stays) (S.toUp.trans k4)
  have S0 : SlotR (fr outer') h h₁ := .keeps k0
  have back : ∀ b ∈ L' :: fr outer', b ∈ fr outer' ∨ h.get? b = none := fun b hb => by
    rcases List.mem_cons.mp hb with rfl | hb
    · exact .inr n
    · exact .inl hb
  exact hQ h4 (U4.back S0 back) (((SlotR.keeps k0).trans S4).more back)
theorem up_newexc {A₀ : Around} {base g h h' : Heap} {env : Env} {outer : List Env} {L e : Addr} {m : PySem.Str → Option Value} {cls : String} (B : Below A₀ base outer g) (F : Fr g L h m) (hf : env.frame = some L) (hke : env.scope.kind = .function) (hm : Heap.NewExc h h' e cls) :
    Up (hideAll h (L :: fr outer)) (env :: outer) e (.type cls) .none none h' ∧ SlotR (L :: fr outer) h h' := by
  have BL := pushX B F hf hke
  refine ⟨⟨fun b o q => hm.keeps b o (of_hideAll _ q), ?_, (funFrames_hide BL.frames fun env' he b hb => ?_).of_keeps fun b o q _ => ⟨o, hm.keeps b o q, rfl⟩, ?_⟩, .keeps hm.keeps⟩
  · cases q : (hideAll h (L :: fr outer)).get? e with
    | none => rfl
    | some o => have := of_hideAll _ q; rw [hm.new] at this; cases this
  · have : b ∈ fr (env :: outer) := List.mem_filterMap.mpr ⟨env', he, hb⟩
    rwa [fr_cons hf] at this
  · obtain ⟨ob, t, he, hc, hd⟩ := hm.there
    exact ⟨ob, _, he, hc, hd, rfl, rfl⟩
theorem leave_new {M : Model} {A A' : Around} {E : Value → Shared → Prop} {s₁ : Shared} {base g h h₁ : Heap} {env' : Env} {outer' : List Env} {L' e : Addr} {m' : PySem.Str → Option Value} {cls : String} {Q : Unit → Shared → Prop}
    (B' : Below A base outer' g) (F' : Fr g L' h₁ m') (hm : Heap.NewExc h₁ s₁.heap e cls) (hf : env'.frame = some L') (hke : env'.scope.kind = .function) (hfr : A'.frames = some (env' :: outer'))
    (k0 : ∀ b o, h.get? b = some o → h₁.get? b = some o) (n : h.get? L' = none)
    (hQ : ∀ h4, Up (hideAll h (fr outer')) outer' e (.type cls) .none (some .none) h4 → SlotR (fr outer') h h4 → Q () { s₁ with heap := h4 }) : wpAny M A' (leaving env' (.ref e)) Q E s₁ := by
  obtain ⟨U, S⟩ := up_newexc B' F' hf hke hm
  exact leave_err B' F' hf hke hfr U (.inl rfl) S k0 n hQ
end Mine
end PartC11

section PartC12
open PySem PySem.W PyProof.Rows PySem.Calls PySem.Spec
set_option linter.all false
set_option maxRecDepth 100000
namespace Mine
section
variable {prog : Program} {w : World} {A₀ A : Around} {E : Value → Shared → Prop} {s s₁ : Shared} {base g hc : Heap} {env : Env} {outer : List Env} {L e : Addr} {m : PySem.Str → Option Value} {news : List (Addr × Obj)} {ctx : Value} {fl : Option Value} {X T' : String} {n : PySem.Str}
  {t : Expr} {b₀ : Stmt} {suite : List Stmt} {pos : Pos} {rest : List ExceptHandler} {Q : Flow → Shared → Prop} {R : Result → Shared → Prop}
theorem method_C {p : Addr} {f self : Value} {pos : List Value} (ho : s.heap.get? p = some (methodObj f self))
    (h : codeC (model prog w) A (.call f ⟨self :: pos, []⟩) R s) : codeC (model prog w) A (.call (.ref p) ⟨pos, []⟩) R s := by
  obtain ⟨hh, g, dr, t, os⟩ := s
  refine codeC_of_tree ?_
  show wpC _ _ (callAny (.ref p) _) _ _ _
  dsimp only at ho
  refine wpC_of (nd_load ho ?_)
  cases f <;> exact wpAny_pure ⟨rfl, h⟩
theorem catch_as (hfr : A.frames = some (env :: outer)) (hf : env.frame = some L) (hke : env.scope.kind = .function) (hlc : env.locals = L) (B : Below A₀ base outer g) (F : Fr g L hc m) (N : News g L hc news) (D : KtsDicts (fr outer) g)
    (U : Up (hideAll hc (fr (env :: outer))) (env :: outer) e (.type X) ctx fl s₁.heap) (hfl : fl = none ∨ fl = some .none ∨ fl = some (rawInt L)) (S : SlotR (fr (env :: outer)) hc s₁.heap)
    (hexc : isSubtype (.type T') (.type "BaseException") = pure true) (hnt : isSubtype (.type ((Manifest.find? T').elim "type" fun x => x.metatype)) (.type "tuple") = pure false)
    (hsub : isSubtype (.type X) (.type T') = pure true) (hlo : env.kindOf n = some .local)
    (hev : ∀ g' s₂ Q' E', Fr g' L s₂.heap m → Below A₀ base outer g' → Q' (.type T') s₂ → wpAny (model prog w) (A.mark (some (.ref e))) (eval t env) Q' E' s₂)
    (k : ∀ g' h' oe tk E', KtsTurn (fr outer) g g' → Fr g' L h' (fun y => if y = n then some (.ref e) else m y) → News g' L h' ((e, oe) :: news) → Below A₀ base outer g' → KtsDicts (fr outer) g' →
      wpAny (model prog w) (A.mark (some (.ref e))) (execs (b₀ :: suite) env) (fun f s₄ => wpAny (model prog w) A (do bindName env n .none; unbindBehindTheSuite env n pos) (fun _ s₅ => Q f s₅) E s₄) E' { s₁ with heap := h', toks := tk }) :
    wpAny (model prog w) A (noteFrame (.ref e) env) (fun _ s₂ => wpAny (model prog w) A (setFlight (.ref e) none) (fun _ s₃ => wpC (model prog w) A (handleBy (.ref e) env (.ExceptHandler (some t) (some n) (b₀ :: suite) pos :: rest)) Q E s₃) E s₂) E s₁ := by
  have BL := pushX B F hf hke
  refine up_note hfr hf U hfl fun h₂ U₂ k₂ => ?_
  refine up_flight (g := none) U₂ fun h₃ U₃ k₃ => ?_
  have k3 : hc.UpToSlots h₃ := (S.toUp.trans k₂).trans k₃
  have S₃ := slot_of_up BL.frames U₃.stays k3
  obtain ⟨g₃, T₃, F₃, N₃, B₃, D₃⟩ := turn B F N D (fr_cons hf ▸ S₃)
  obtain ⟨oe, vs, he, hcl, _⟩ := U₃.there
  refine wpC_of (wpAny_handleBy_builtin_as (X := X) (b := true) hexc hnt hsub (hev g₃ _ _ _ F₃ B₃ ⟨rfl, ⟨oe, he, hcl⟩, ?_⟩))
  refine up_flight (g := none) U₃ fun h₄ U₄ k₄ => ?_
  have S₄ := slot_of_up BL.frames U₄.stays (k3.trans k₄)
  obtain ⟨g₄, T₄, F₄, N₄, B₄, D₄⟩ := turn B F N D (fr_cons hf ▸ S₄)
  obtain ⟨oe, x₄, N₅⟩ := exc_news B F hf T₄ N₄ U₄
  have hp : (env.scope.kind == .class || (env.scope.kind == .module && env.locals != env.globals)) = false := by rw [hke]; rfl
  subst hlc
  refine wpAny_storeName_local hlo F₄.ns (fun h₅ hn hs => ?_) hp
  refine k g₄ h₅ oe _ _ T₄ (F₄.set hn hs) (fun p hp => ⟨(hs.2 _ (N₅ p hp).2.1).trans (N₅ p hp).1, (N₅ p hp).2⟩) B₄ D₄
end
end Mine
end PartC12

section PartD1
open PySem PySem.W PyProof.Rows PySem.Calls PySem.Spec
set_option linter.all false
set_option maxRecDepth 100000
namespace Mine
def small (x : Str) : Bool := decide (x.length ≤ 100) && x.cps.toList.all fun c => decide (c < 256)
def okText (x : Str) : Bool := small x && match factor x with
  | some (i, none) => decide (PySem.intText? x = some i) && decide (-1000 ≤ i) && decide (i ≤ 1000)
  | some (i, some b) => decide (PySem.intText? x = none) && decide (-1000 ≤ i) && decide (i ≤ 1000) && decide (-1000 ≤ b) && decide (b ≤ 1000) && (match Txt.split x (Str.ofString "/") with
    | y0 :: y1 :: _ => small y0 && small y1 && decide (PySem.intText? y0 = some i) && decide (PySem.intText? y1 = some b)
    | _ => false)
  | none => decide (PySem.intText? x = none) && (match Txt.split x (Str.ofString "/") with
    | y0 :: ys => (y0 :: ys).all small && decide ((PyData.list ((y0 :: ys).map PyData.str)).shown.length ≤ 2000) && (match PySem.intText? y0 with
      | none => true
      | some _ => (match ys with
        | y1 :: _ => decide (PySem.intText? y1 = none)
        | [] => false))
    | [] => false)
theorem ok0 : ∀ f : Fin 6, ∀ a : Fin 12, okText (fronts.getD f.val Str.empty ++ Str.ofString (toString (a.val : Int))) = true := by decide +kernel
theorem ok3 : ∀ f : Fin 10, okText (misses.getD f.val Str.empty) = true := by decide +kernel
def slashed (f : Str) (a b : Nat) : Str := f ++ Str.ofString (toString (a : Int)) ++ Str.ofString "/" ++ f ++ Str.ofString (toString (b : Int))
theorem ok1a : ∀ a : Fin 12, ∀ b : Fin 7, okText (slashed (Str.ofString "") a.val b.val) = true := by decide +kernel
theorem ok1b : ∀ a : Fin 12, ∀ b : Fin 7, okText (slashed (Str.ofString "+") a.val b.val) = true := by decide +kernel
theorem ok1c : ∀ a : Fin 12, ∀ b : Fin 7, okText (slashed (Str.ofString "-") a.val b.val) = true := by decide +kernel
theorem ok1d : ∀ a : Fin 12, ∀ b : Fin 7, okText (slashed (Str.ofString " ") a.val b.val) = true := by decide +kernel
theorem ok1e : ∀ a : Fin 12, ∀ b : Fin 7, okText (slashed (Str.ofString "0") a.val b.val) = true := by decide +kernel
theorem ok1 (f : Fin 6) (a : Fin 12) (b : Fin 7) : okText (fronts.getD f.val Str.empty ++ Str.ofString (toString (a.val : Int)) ++ Str.ofString "/" ++ fronts.getD f.val Str.empty ++ Str.ofString (toString (b.val : Int))) = true := by
  match f with
  | ⟨0, _⟩ => exact ok1a a b
  | ⟨1, _⟩ => exact ok1a a b
  | ⟨2, _⟩ => exact ok1b a b
  | ⟨3, _⟩ => exact ok1c a b
  | ⟨4, _⟩ => exact ok1d a b
  | ⟨5, _⟩ => exact ok1e a b
theorem ok2 : ∀ a : Fin 12, ∀ b : Fin 7, okText (Str.ofString (toString (a.val : Int)) ++ Str.ofString "/" ++ Str.ofString (toString (b.val : Int)) ++ Str.ofString "/x") = true := by decide +kernel
theorem fmod_fin (x : Int) (k : Nat) (hk : 0 < k) : ∃ a : Fin k, x.fmod k = (a.val : Int) := by
  have h1 := Int.fmod_nonneg_of_pos x (b := k) (by omega)
  have h2 := Int.fmod_lt_of_pos x (b := k) (by omega)
  exact ⟨⟨(x.fmod k).toNat, by omega⟩, by simp; omega⟩
theorem ok_drawn (n : Int) : okText (drawn n) = true := by
  obtain ⟨a, ha⟩ := fmod_fin (n.fdiv 4) 12 (by decide)
  obtain ⟨b, hb⟩ := fmod_fin (n.fdiv 48) 7 (by decide)
  obtain ⟨f, hf⟩ := fmod_fin (n.fdiv 336) 6 (by decide)
  obtain ⟨c, hc⟩ := fmod_fin (n.fdiv 4) 10 (by decide)
  unfold drawn
  rw [show ((12 : Nat) : Int) = 12 from rfl] at ha
  rw [show ((7 : Nat) : Int) = 7 from rfl] at hb
  rw [show ((6 : Nat) : Int) = 6 from rfl] at hf
  rw [show ((10 : Nat) : Int) = 10 from rfl] at hc
  rw [ha, hb, hf, hc, Int.toNat_natCast, Int.toNat_natCast]
  split
  · exact ok0 f a
  · split
    · exact ok1 f a b
    · split
      · exact ok2 a b
      · exact ok3 c
structure Small (x : Str) : Prop where
  len : x.length ≤ 100
  cps : ∀ c ∈ x.cps.toList, c < 16 ^ 8
theorem small_of {x : Str} (h : small x = true) : Small x := by
  unfold small at h
  simp only [Bool.and_eq_true, decide_eq_true_eq, List.all_eq_true] at h
  exact ⟨h.1, fun c hc => Nat.lt_of_lt_of_le (h.2 c hc) (by decide)⟩
inductive Kind (x : Str) : Prop
  | whole (i : Int) : factor x = some (i, none) → PySem.intText? x = some i → -1000 ≤ i → i ≤ 1000 → Kind x
  | slash (i b : Int) (y0 y1 : Str) (ys : List Str) : factor x = some (i, some b) → PySem.intText? x = none → Txt.split x (Str.ofString "/") = y0 :: y1 :: ys → PySem.intText? y0 = some i → PySem.intText? y1 = some b → Small y0 → Small y1 →
      -1000 ≤ i → i ≤ 1000 → -1000 ≤ b → b ≤ 1000 → Kind x
  | miss (y0 : Str) (ys : List Str) : factor x = none → PySem.intText? x = none → Txt.split x (Str.ofString "/") = y0 :: ys → (PySem.intText? y0 = none ∨ ∃ i y1 zs, PySem.intText? y0 = some i ∧ ys = y1 :: zs ∧ PySem.intText? y1 = none) →
      (∀ y ∈ y0 :: ys, Small y) → (PyData.list ((y0 :: ys).map PyData.str)).shown.length ≤ 2000 → Kind x
theorem kind_of {x : Str} (h : okText x = true) : Small x ∧ Kind x := by
  unfold okText at h
  obtain ⟨h0, h⟩ := Bool.and_eq_true_iff.mp h
  refine ⟨small_of h0, ?_⟩
  split at h
  · rename_i i e
    simp only [Bool.and_eq_true, decide_eq_true_eq] at h
    exact .whole i e h.1.1 h.1.2 h.2
  · rename_i i b e
    split at h
    · rename_i y0 y1 ys e2
      simp only [Bool.and_eq_true, decide_eq_true_eq] at h
      obtain ⟨⟨⟨⟨⟨a1, a2⟩, a3⟩, a4⟩, a5⟩, ⟨⟨b1, b2⟩, b3⟩, b4⟩ := h
      exact .slash i b y0 y1 ys e a1 e2 b3 b4 (small_of b1) (small_of b2) a2 a3 a4 a5
    · simp at h
  · rename_i e
    split at h
    · rename_i y0 ys e2
      simp only [Bool.and_eq_true, decide_eq_true_eq] at h
      obtain ⟨a1, ⟨a2, a3⟩, a4⟩ := h
      refine .miss y0 ys e a1 e2 ?_ (fun y hy => small_of (List.all_eq_true.mp a2 y hy)) a3
      split at a4
      · rename_i e3; exact .inl e3
      · rename_i i e3
        split at a4
        · rename_i y1 zs
          exact .inr ⟨i, y1, zs, e3, rfl, by simpa using a4⟩
        · cases a4
    · simp at h
end Mine
end PartD1

local macro_rules | `(tactic| walk_at "no key") => `(tactic| fail)
local macro_rules | `(tactic| walk_at "no key") => `(tactic| fail)
local macro_rules | `(tactic| walk_at "no key") => `(tactic| fail)
local macro_rules | `(tactic| walk_at "no key") => `(tactic| fail)
local macro_rules | `(tactic| walk_at "no key") => `(tactic| fail)
local macro_rules | `(tactic| walk_at "no key") => `(tactic| fail)
local macro_rules | `(tactic| walk_at "no key") => `(tactic| fail)
section PartE1
open PySem PySem.W PyProof.Rows PySem.Calls PySem.Spec
set_option linter.all false
namespace Mine
theorem fillE1 : ∀ w h, (Mine.hd.heap_39 w).In h → PySem.Challenge.rw_bq5007_01.row.prog = PySem.Challenge.rw_bq5007_01.row.prog := by
  k_fill
  intros; rfl
abbrev gTop (dp un : Nat) (gd : Option (List Code)) (env : Env) (outer : List Env) : Around := { handled := none, depth := dp, frames := some (env :: outer), guards := gd, units := un }
section
variable {pt : Program} {w : World} {mean : ExcName → Option Value} {mg mb : Str → Option Value} {dp un : Nat} {gd : Option (List Code)} {env : Env} {outer : List Env} {A₀ : Around} {base h₀ : Heap} {L : Addr} {m : Str → Option Value} {news : List (Addr × Obj)} {s : Shared} {Q E : Value → Shared → Prop} {loose : List Str}
local macro_rules | `(tactic| walk_at "subscriptTail Name Constant ref int") => `(tactic| (k_here; (with_reducible show wpAny _ _ (subscriptTail _ _ (Value.ref _) (Value.int _ _)) _ _ _); k_dflt (refine' strs_item ?hl ?hw ?hy ?h0 ?h1 ?_; (case hy => with_reducible assumption); (case hl => exact News.isList (by k_asm) (by k_mem)); (case hw => assumption); (case h0 => decide); (case h1 => decide)); intro _))
local macro_rules | `(tactic| walk_at "unpackItems ref") => `(tactic| (k_here; k_dflt (refine' unpack_K ?k1 ?k2 ?k3 ?k4 ?k5 ?k6 ?k7 ?k8 ?_; (case k2 => k_asm); (case k1 => k_asm); (case k3 => k_mem); (case k4 => exact rfl); (case k5 => exact rfl); (case k6 => exact rfl); (case k7 => k_mem); (case k8 => assumption); k_whole); intro h' F' N'; (try k_sweep)))
local macro_rules | `(tactic| ke_room) => `(tactic| ktr_units)
local macro_rules | `(tactic| k_units) => `(tactic| ktr_units)
local macro_rules | `(tactic| k_room) => `(tactic| ktr_room)
local macro_rules | `(tactic| walk_at "StrBack") => `(tactic| (k_dflt (dsimp only [StrBack]); (try k_fold)))
local macro_rules | `(tactic| walk_at "CmpBack") => `(tactic| (k_dflt (dsimp only [CmpBack]); (try k_fold)))
local macro_rules | `(tactic| walk_at "call ref") => `(tactic| (k_here; (with_reducible show wpAny _ _ (call (Value.ref 176) [_, _]) _ _ _); k_dflt (first
  | (with_reducible show wpAny _ _ (call (Value.ref 176) [_, Value.none]) _ _ _; refine' new_call (o := none) (t2 := 0) ?k1 ?k2 ?k3 ?k4 ?k5 ?kK ?kd ?ku ?_)
  | (refine' new_call (o := some _) ?k1 ?k2 ?k3 ?k4 ?k5 ?kK ?kd ?ku ?_)); (case k1 => k_asm); (case k2 => k_asm); (case k3 => k_asm); (case k4 => k_asm); (case k5 => k_asm); (case kK => exact rfl); (case kd => ktr_room); (case ku => ktr_units); k_dflt (all_goals (intros; (try dsimp only [StrBack, CmpBack]); (try dsimp only); (try k_fold)))))
theorem fresh_in {Fs : List Addr} {g' : Heap} {x : Addr} (T : KtsTurn Fs (hideAll s.heap (news.map (·.1))) g') (hn : g'.get? x = none) (hx : ∀ p ∈ news, p.1 < x) : s.heap.get? x = none := by
  cases q : s.heap.get? x with
  | none => rfl
  | some o =>
    have q' := hideAll_get (news.map (·.1)) q fun hm => by
      obtain ⟨p, hp, e⟩ := List.mem_map.mp hm
      have := hx p hp
      rw [e] at this
      exact absurd this (Nat.lt_irrefl _)
    obtain ⟨sl, hs⟩ := T.up q'
    rw [hn] at hs; cases hs
set_option maxRecDepth 100000 in
set_option maxHeartbeats 8000000 in
theorem create_slash
  {x y0 y1 : Str} {t : Tok} {i b : Int} {ys : List Str}
  (B : Below A₀ base outer h₀) (F : Fr h₀ L s.heap m) (X : (Mine.hd.heap_39 w.params).In h₀) (N : News h₀ L s.heap news) (T : Top pt loose mean mg mb h₀) (XB : (Mine.hd.heap_39 w.params).In base) (TB : Top pt loose mean mg mb base) (D : KtsDicts (fr outer) h₀) (hk : env.scope.kind = .function) (hf : env.frame = some L) (hd : dp + 4 < recursionLimit) (hu : un + 100 < cLine)
  (hx : x.length ≤ 100) (hl0 : y0.length ≤ 640) (hl1 : y1.length ≤ 640) (hc : ∀ c ∈ x.cps.toList, c < 16 ^ 8) (h0 : PySem.intText? x = none) (hsp : Txt.split x (Str.ofString "/") = y0 :: y1 :: ys) (hy0 : PySem.intText? y0 = some i) (hy1 : PySem.intText? y1 = some b)
  (hret : ∀ x fd k1 k2 k3 t1 t2 t3 h' tk', SlotR (L :: fr outer) s.heap h' → s.heap.get? x = none → s.heap.get? fd = none → h'.get? x = some (instObj 176 fd) → h'.get? fd = some (rfD w.params i (some b) k1 k2 k3 t1 t2 t3) → Q (.ref x) { s with heap := h', toks := tk' }) :
  wpC (model PySem.Challenge.rw_bq5007_01.row.prog w) (gTop dp un gd env outer) (call (.ref 156) [.str x t]) Q E s := by
  w_strict (
    w_top off
    refine wpC_call ?_
    (refine' enter_C ?k1 ?k2 ?k3 ?k4 ?k5 ?kD ?kA ?kF ?kK ?k6 ?k7 ?k8 ?k9 ?kB ?_ ?c2 ?c3 ?c4 ?c5); (case kA => exact rfl); (case kF => exact hf); (case kK => assumption); (case k1 => k_asm); (case k2 => k_asm); (case k3 => k_asm); (case k4 => k_asm); (case k5 => k_asm); (case kD => assumption); (case k6 => k_is); (case k7 => k_is); (case k8 => ktr_room); (case k9 => exact BindsTo.of_eq rfl); (case c5 => decide); (case kB => exact locs rfl); (case c2 => exact rfl); (case c3 => exact rfl); (case c4 => exact rfl); k_whole
    intro g L' h₁ hg F' N' B' X' T' D' hk₁ hL'
    (try dsimp only); (try k_lift B'); (try k_fold)
    refine A_cons ?_
    k_steps
    dsimp only
    refine C_cons (C_try ?_)
    refine C_last (C_assign_name (C_call_name ?_))
    k_steps
    all_goals first | (show KeepsOk _ _ _; exact keepsOk_type) | skip
    refine call_fail hx hc h0 ?_
    intro A' h' tk e vs hh hu' hm
    refine raise_none (by rw [hh]; rfl) ?_
    dsimp only
    refine catch_new (T' := "ValueError") hm rfl rfl rfl B' (by assumption) (by assumption) D' (by kts_sub) (by rfl) (by kts_sub) ?_ ?_
    · intro g' s₂ Q' E' F₂ B₂ q
      have X₂ := XB.keeps B₂.stays
      have T₂ := TB.keeps B₂.stays
      k_steps
      exact q
    intro g₂ h₂ oe T₂ F₂ x₂ N₂ B₂ D₂ U₂ S₂
    have X₂ := XB.keeps B₂.stays
    have TT₂ := TB.keeps B₂.stays
    clear B' D' X' T'
    refine C_last (C_try ?_)
    refine A_cons ?_
    k_steps
    dsimp only
    rename_i l h3 k3 hlook hstrs hlens hlist h4 F4 N4
    have hq0 : (List.map (fun x => x.1) l)[Int.toNat 0]? = some y0 := by rw [hlook, hsp]; rfl
    have hq1 : (List.map (fun x => x.1) l)[Int.toNat 1]? = some y1 := by rw [hlook, hsp]; rfl
    refine A_cons ?_
    k_steps
    dsimp only
    refine C_nil ?_
    dsimp only
    refine C_nil ?_
    dsimp only
    refine C_last (wpC_of ?_)
    k_steps
    rename_i xx fd k1 k2 kk3 t3 h5 tk5 F5 N5 lt5 ltx
    subst hg
    rw [fr_cons hf] at T₂
    have lt6 : ∀ p ∈ news, p.1 < fd := fun p hp => lt5 p (.tail _ (.tail _ (.tail _ hp)))
    exact hret xx fd k1 k2 kk3 _ _ t3 h5 tk5 (exit_slot N T₂ F5 fun p hp => N5 p (.tail _ (.tail _ (.tail _ (.tail _ (.tail _ hp))))))
      (fresh_in T₂ (N5 _ (.head _)).2.2 fun p hp => Nat.lt_trans (lt6 p hp) ltx) (fresh_in T₂ (N5 _ (.tail _ (.head _))).2.2 lt6) (N5 _ (.head _)).1 (N5 _ (.tail _ (.head _))).1)
end
end Mine
end PartE1

local macro_rules | `(tactic| walk_at "no key") => `(tactic| fail)
local macro_rules | `(tactic| walk_at "no key") => `(tactic| fail)
local macro_rules | `(tactic| walk_at "no key") => `(tactic| fail)
local macro_rules | `(tactic| walk_at "no key") => `(tactic| fail)
local macro_rules | `(tactic| walk_at "no key") => `(tactic| fail)
local macro_rules | `(tactic| walk_at "no key") => `(tactic| fail)
section PartE2
open PySem PySem.W PyProof.Rows PySem.Calls PySem.Spec
set_option linter.all false
namespace Mine
section
variable {pt : Program} {w : World} {mean : ExcName → Option Value} {mg mb : Str → Option Value} {dp un : Nat} {gd : Option (List Code)} {cn : Str} {cs : Scope} {a : Addr} {ccd : Value} {cl : List (Str × Addr)} {outer : List Env} {A₀ : Around} {base h₀ : Heap} {L : Addr} {m : Str → Option Value} {news : List (Addr × Obj)} {s : Shared} {Q E : Value → Shared → Prop} {loose : List Str}
local macro_rules | `(tactic| ke_room) => `(tactic| ktr_units)
local macro_rules | `(tactic| k_units) => `(tactic| ktr_units)
local macro_rules | `(tactic| k_room) => `(tactic| ktr_room)
local macro_rules | `(tactic| walk_at "StrBack") => `(tactic| (k_dflt (dsimp only [StrBack]); (try k_fold)))
local macro_rules | `(tactic| walk_at "CmpBack") => `(tactic| (k_dflt (dsimp only [CmpBack]); (try k_fold)))
local macro_rules | `(tactic| walk_at "call ref") => `(tactic| (k_here; (with_reducible show wpAny _ _ (call (Value.ref 176) [_, _]) _ _ _); k_dflt (first
  | (with_reducible show wpAny _ _ (call (Value.ref 176) [_, Value.none]) _ _ _; refine' new_call (o := none) (t2 := 0) ?k1 ?k2 ?k3 ?k4 ?k5 ?kK ?kd ?ku ?_)
  | (refine' new_call (o := some _) ?k1 ?k2 ?k3 ?k4 ?k5 ?kK ?kd ?ku ?_)); (case k1 => k_asm); (case k2 => k_asm); (case k3 => k_asm); (case k4 => k_asm); (case k5 => k_asm); (case kK => exact rfl); (case kd => ktr_room); (case ku => ktr_units); k_dflt (all_goals (intros; (try dsimp only [StrBack, CmpBack]); (try dsimp only); (try k_fold)))))
set_option maxRecDepth 100000 in
set_option maxHeartbeats 8000000 in
theorem create_text
  {x : Str} {t : Tok} {i : Int}
  (B : Below A₀ base outer h₀) (F : Fr h₀ L s.heap m) (X : (Mine.hd.heap_39 w.params).In h₀) (N : News h₀ L s.heap news) (T : Top pt loose mean mg mb h₀) (hk : cs.kind = .function) (hd : dp + 4 < recursionLimit) (hu : un + 100 < cLine)
  (hx : x.length ≤ 640) (h0 : PySem.intText? x = some i)
  (hret : ∀ xx fd k1 k2 k3 t1 t2 t3 h' tk', Fr h₀ L h' m → News h₀ L h' ((xx, instObj 176 fd) :: (fd, rfD w.params i none k1 k2 k3 t1 t2 t3) :: news) → (∀ p ∈ news, p.1 < fd) → fd < xx → Q (.ref xx) { s with heap := h', toks := tk' }) :
  wpAny (model PySem.Challenge.rw_bq5007_01.row.prog w) (ktrTop dp un gd cn cs L a ccd cl outer) (call (.ref 156) [.str x t]) Q E s := by
  w_strict (
    w_top off
    refine wpAny_call ?_
    k_dflt cell_enter
    k_steps
    all_goals (refine' hret _ _ _ _ _ _ _ _ _ _ ?e1 ?e2 ?e3 ?e4; (case e1 => k_asm); (case e2 => refine' news_rf (o := none) (t2 := 0) ?N ?e; (case N => k_asm); (case e => simp [fullV, *])); (case e3 => first | assumption | exact allLt_mem (by assumption)); (case e4 => assumption)))
set_option maxRecDepth 100000 in
set_option maxHeartbeats 8000000 in
theorem create_int
  {i : Int} {t : Tok}
  (B : Below A₀ base outer h₀) (F : Fr h₀ L s.heap m) (X : (Mine.hd.heap_39 w.params).In h₀) (N : News h₀ L s.heap news) (T : Top pt loose mean mg mb h₀) (hk : cs.kind = .function) (hd : dp + 4 < recursionLimit) (hu : un + 100 < cLine)
  (hret : ∀ xx fd k1 k2 k3 t1 t2 t3 h' tk', Fr h₀ L h' m → News h₀ L h' ((xx, instObj 176 fd) :: (fd, rfD w.params i none k1 k2 k3 t1 t2 t3) :: news) → (∀ p ∈ news, p.1 < fd) → fd < xx → Q (.ref xx) { s with heap := h', toks := tk' }) :
  wpAny (model PySem.Challenge.rw_bq5007_01.row.prog w) (ktrTop dp un gd cn cs L a ccd cl outer) (call (.ref 156) [.int i t]) Q E s := by
  w_strict (
    refine wpAny_call ?_
    k_dflt cell_enter
    k_steps
    all_goals (refine' hret _ _ _ _ _ _ _ _ _ _ ?e1 ?e2 ?e3 ?e4; (case e1 => k_asm); (case e2 => refine' news_rf (o := none) (t2 := 0) ?N ?e; (case N => k_asm); (case e => simp [fullV, *])); (case e3 => first | assumption | exact allLt_mem (by assumption)); (case e4 => assumption)))
end
end Mine
end PartE2

local macro_rules | `(tactic| walk_at "no key") => `(tactic| fail)
local macro_rules | `(tactic| walk_at "no key") => `(tactic| fail)
local macro_rules | `(tactic| walk_at "no key") => `(tactic| fail)
local macro_rules | `(tactic| walk_at "no key") => `(tactic| fail)
section PartE3
open PySem PySem.W PyProof.Rows PySem.Calls PySem.Spec
set_option linter.all false
namespace Mine
section
variable {pt : Program} {w : World} {mean : ExcName → Option Value} {mg mb : Str → Option Value} {dp un : Nat} {gd : Option (List Code)} {env : Env} {outer : List Env} {A₀ : Around} {base h₀ : Heap} {L : Addr} {m : Str → Option Value} {news : List (Addr × Obj)} {s : Shared} {Q E : Value → Shared → Prop} {loose : List Str}
local macro_rules | `(tactic| ke_room) => `(tactic| ktr_units)
local macro_rules | `(tactic| k_units) => `(tactic| ktr_units)
local macro_rules | `(tactic| k_room) => `(tactic| ktr_room)
local macro_rules | `(tactic| walk_at "StrBack") => `(tactic| (k_dflt (dsimp only [StrBack]); (try k_fold)))
local macro_rules | `(tactic| walk_at "CmpBack") => `(tactic| (k_dflt (dsimp only [CmpBack]); (try k_fold)))
local macro_rules | `(tactic| walk_at "subscriptTail Name Constant ref int") => `(tactic| (k_here; (with_reducible show wpAny _ _ (subscriptTail _ _ (Value.ref _) (Value.int _ _)) _ _ _); k_dflt (refine' strs_item ?hl ?hw ?hy ?h0 ?h1 ?_; (case hy => with_reducible assumption); (case hl => exact News.isList (by k_asm) (by k_mem)); (case hw => assumption); (case h0 => decide); (case h1 => decide)); intro _))
local macro_rules | `(tactic| walk_at "unpackItems ref") => `(tactic| (k_here; k_dflt (refine' unpack_K ?k1 ?k2 ?k3 ?k4 ?k5 ?k6 ?k7 ?k8 ?_; (case k2 => k_asm); (case k1 => k_asm); (case k3 => k_mem); (case k4 => exact rfl); (case k5 => exact rfl); (case k6 => exact rfl); (case k7 => k_mem); (case k8 => assumption); k_whole); intro h' F' N'; (try k_sweep)))
theorem reads_strs {h : Heap} : ∀ {l : List (Str × Tok)}, ∃ as, ReadsAll h (strValues l) (l.map fun x => PyData.str x.1) as ∧ as = []
  | [] => ⟨_, .nil, rfl⟩
  | (x, t) :: r => by
    obtain ⟨as, ih, e⟩ := reads_strs (h := h) (l := r)
    exact ⟨_, .cons (.str x t) ih, by rw [e]; rfl⟩
set_option maxRecDepth 100000 in
set_option maxHeartbeats 8000000 in
theorem create_miss
  {x y0 : Str} {t : Tok} {ys : List Str}
  (B : Below A₀ base outer h₀) (F : Fr h₀ L s.heap m) (X : (Mine.hd.heap_39 w.params).In h₀) (N : News h₀ L s.heap news) (T : Top pt loose mean mg mb h₀) (XB : (Mine.hd.heap_39 w.params).In base) (TB : Top pt loose mean mg mb base) (D : KtsDicts (fr outer) h₀) (hk : env.scope.kind = .function) (hf : env.frame = some L) (hd : dp + 4 < recursionLimit) (hu : un + 100 < cLine) (hgd : gd = some [])
  (hx : x.length ≤ 100) (hc : ∀ c ∈ x.cps.toList, c < 16 ^ 8) (h0 : PySem.intText? x = none) (hsp : Txt.split x (Str.ofString "/") = y0 :: ys)
  (hbad : PySem.intText? y0 = none ∨ ∃ i y1 zs, PySem.intText? y0 = some i ∧ ys = y1 :: zs ∧ PySem.intText? y1 = none) (hcs : ∀ y ∈ y0 :: ys, ∀ c ∈ y.cps.toList, c < 16 ^ 8) (hls : ∀ y ∈ y0 :: ys, y.length ≤ 100)
  (hshow : (PyData.list ((y0 :: ys).map PyData.str)).shown.length ≤ 2000)
  (herr : ∀ e ctx h' tk', Up (hideAll s.heap (L :: fr outer)) (env :: outer) e (.type "ValueError") ctx (some .none) h' → SlotR (L :: fr outer) s.heap h' → E (.ref e) { s with heap := h', toks := tk' }) :
  wpC (model PySem.Challenge.rw_bq5007_01.row.prog w) (gTop dp un gd env outer) (call (.ref 156) [.str x t]) Q E s := by
  subst hgd
  w_strict (
    w_top off
    refine wpC_call ?_
    (refine' enter_C ?k1 ?k2 ?k3 ?k4 ?k5 ?kD ?kA ?kF ?kK ?k6 ?k7 ?k8 ?k9 ?kB ?_ ?c2 ?c3 ?c4 ?c5); (case kA => exact rfl); (case kF => exact hf); (case kK => assumption); (case k1 => k_asm); (case k2 => k_asm); (case k3 => k_asm); (case k4 => k_asm); (case k5 => k_asm); (case kD => assumption); (case k6 => k_is); (case k7 => k_is); (case k8 => ktr_room); (case k9 => exact BindsTo.of_eq rfl); (case c5 => decide); (case kB => exact locs rfl); (case c2 => exact rfl); (case c3 => exact rfl); (case c4 => exact rfl); k_whole
    intro g L' h₁ hg F' N' B' X' T' D' hk₁ hL'
    (try dsimp only); (try k_lift B'); (try k_fold)
    refine A_cons ?_
    k_steps
    dsimp only
    refine C_cons (C_try ?_)
    refine C_last (C_assign_name (C_call_name ?_))
    k_steps
    all_goals first | (show KeepsOk _ _ _; exact keepsOk_type) | skip
    refine call_fail hx hc h0 ?_
    intro A' h' tk e vs hh hu' hm
    refine raise_none (by rw [hh]; rfl) ?_
    dsimp only
    refine catch_new (T' := "ValueError") hm rfl rfl rfl B' (by assumption) (by assumption) D' (by kts_sub) (by rfl) (by kts_sub) ?_ ?_
    · intro g' s₂ Q' E' F₂ B₂ q
      have X₂ := XB.keeps B₂.stays
      have T₂ := TB.keeps B₂.stays
      k_steps
      exact q
    intro g₂ h₂ oe T₂ F₂ x₂ N₂ B₂ D₂ U₂ S₂
    have X₂ := XB.keeps B₂.stays
    have TT₂ := TB.keeps B₂.stays
    clear B' D' X' T'
    refine C_last (C_try ?_)
    refine A_cons ?_
    k_steps
    dsimp only
    rename_i l h3 k3 hlook hstrs hlens hlist h4 F4 N4
    have hq0 : (List.map (fun x => x.1) l)[Int.toNat 0]? = some y0 := by rw [hlook, hsp]; rfl
    refine C_last (C_assign_raises (C_tuple2 (C_call_name ?_)))
    k_steps
    all_goals first | (show KeepsOk _ _ _; exact keepsOk_type) | skip
    have hc1 : Chain h4 e := .inl (excO_at N4 (by k_mem) x₂)
    rcases hbad with hb | ⟨i, y1, zs, hi, hys, hb⟩
    · refine call_fail (hls y0 (.head _)) (hcs y0 (.head _)) hb ?_
      intro A'' h' tk' e2 vs' hh2 hu2 hm2
      refine raise_catch (T' := "Exception") hm2 (by rw [hh2]; rfl) hc1 rfl rfl rfl B₂ F4 N4 D₂ (by kts_sub) (by rfl) (by kts_sub) ?_ ?_
      · intro g' s₂ Q' E' F₃ B₃ q
        have X₃ := XB.keeps B₃.stays
        have T₃ := TB.keeps B₃.stays
        k_steps
        exact q
      intro g₃ h₃ oe₂ T₃ F₃ x₃ N₃ B₃ D₃ U₃ S₃
      have X₃ := XB.keeps B₃.stays
      have TT₃ := TB.keeps B₃.stays
      refine C_last (wpC_of ?_)
      refine raise_by1 PySem.F.excCall_ValueError PySem.F.excRaise_ValueError ?_
      k_steps
      obtain ⟨as, ra, ea⟩ := reads_strs (h := h₃) (l := l)
      subst ea
      have hd1 : (l.map fun x => PyData.str x.1) = (y0 :: ys).map PyData.str := by rw [← hsp, ← hlook, List.map_map]; rfl
      rw [hd1] at ra
      have sd := strs_data (y0 :: ys)
      refine fmt_call (Reads.list (N₃ _ (.tail _ (.head _))).1 rfl rfl ra) sd.1 (fun z => by rw [sd.2.1] at z; cases z) rfl ?_ hshow fun h5 mx u5 tk5 k5 => ?_
      · show un + 3 + _ < cLine
        have := sd.2.2
        omega
      have F5 := frKept F₃ k5
      have N5 := newsKept N₃ k5
      dsimp only
      refine spliced_nil ⟨(show 1 ≤ sizeLine from by rw [sizeLine_eq]; omega), fun h6 e3 hm3 => ?_⟩
      have ne2 : e ≠ e2 := fun z => by
        have q := (N4 _ (.tail _ (.head _))).1
        rw [z, hm2.new] at q; cases q
      have hc5 : Chain h5 e2 := .inr ⟨e, excO_at N5 (by k_mem) x₃, ne2, excO_at N5 (by k_mem) x₂⟩
      refine raise_new_at U₃ hm3 rfl hc5 rfl rfl B₃ F5 fun h7 ff7 U7 S7 => ?_
      refine up_noted rfl rfl U7 (.inl rfl) fun h8 U8 k8 => ?_
      refine up_back rfl U8 fun h9 U9 k9 => ?_
      refine up_noted rfl rfl U9 (.inr (.inr rfl)) fun h10 U10 k10 => ?_
      refine up_back rfl U10 fun h11 U11 k11 => ?_
      refine up_leaving rfl rfl U11 (.inr (.inr rfl)) fun h12 U12 k12 => ?_
      subst hg
      have T₂₃ := T₂.trans T₃
      rw [fr_cons hf] at T₂₃
      have ex := exit_slot N T₂₃ F5 fun p hp => N5 p (.tail _ (.tail _ (.tail _ hp)))
      have up7 := ((((S7.toUp.trans k8).trans k9).trans k10).trans k11).trans k12
      have S12 := slot_of_up ff7 U12.stays up7
      have S12' : SlotR (L' :: fr (env :: outer)) h5 h12 := S12
      rw [fr_cons hf] at S12'
      have fin : SlotR (L :: fr outer) s.heap h12 := SlotR.more ((ex.more (Fs' := L' :: L :: fr outer) fun b hb => .inl (.tail _ hb)).trans S12') fun b hb => by
        rcases List.mem_cons.mp hb with rfl | hb
        · exact .inr hL'
        · exact .inl hb
      refine herr e3 _ h12 _ (Up.weaken U12 fun b o q => ?_) fin
      have q1 := of_hideAll _ q
      have nb : b ∉ L :: fr outer := fun z => by rw [hideAll_none _ z] at q; cases q
      refine hideAll_get _ ((ex b o q1).1 nb) fun z => ?_
      rcases List.mem_cons.mp z with rfl | z
      · rw [hL'] at q1; cases q1
      · exact nb ((fr_cons (outer := outer) hf) ▸ z)
    · refine wpC_of (KIN.call_text hi (Nat.le_trans (hls y0 (.head _)) (by decide)) ?_)
      dsimp only
      refine C_call_name ?_
      have hq1 : (List.map (fun x => x.1) l)[Int.toNat 1]? = some y1 := by rw [hlook, hsp, hys]; rfl
      k_steps
      all_goals first | (show KeepsOk _ _ _; exact keepsOk_type) | skip
      refine call_fail (hls y1 (by rw [hys]; exact .tail _ (.head _))) (hcs y1 (by rw [hys]; exact .tail _ (.head _))) hb ?_
      intro A'' h' tk' e2 vs' hh2 hu2 hm2
      refine raise_catch (T' := "Exception") hm2 (by rw [hh2]; rfl) hc1 rfl rfl rfl B₂ F4 N4 D₂ (by kts_sub) (by rfl) (by kts_sub) ?_ ?_
      · intro g' s₂ Q' E' F₃ B₃ q
        have X₃ := XB.keeps B₃.stays
        have T₃ := TB.keeps B₃.stays
        k_steps
        exact q
      intro g₃ h₃ oe₂ T₃ F₃ x₃ N₃ B₃ D₃ U₃ S₃
      have X₃ := XB.keeps B₃.stays
      have TT₃ := TB.keeps B₃.stays
      refine C_last (wpC_of ?_)
      refine raise_by1 PySem.F.excCall_ValueError PySem.F.excRaise_ValueError ?_
      k_steps
      obtain ⟨as, ra, ea⟩ := reads_strs (h := h₃) (l := l)
      subst ea
      have hd1 : (l.map fun x => PyData.str x.1) = (y0 :: ys).map PyData.str := by rw [← hsp, ← hlook, List.map_map]; rfl
      rw [hd1] at ra
      have sd := strs_data (y0 :: ys)
      refine fmt_call (Reads.list (N₃ _ (.tail _ (.head _))).1 rfl rfl ra) sd.1 (fun z => by rw [sd.2.1] at z; cases z) rfl ?_ hshow fun h5 mx u5 tk5 k5 => ?_
      · show un + 3 + _ < cLine
        have := sd.2.2
        omega
      have F5 := frKept F₃ k5
      have N5 := newsKept N₃ k5
      dsimp only
      refine spliced_nil ⟨(show 1 ≤ sizeLine from by rw [sizeLine_eq]; omega), fun h6 e3 hm3 => ?_⟩
      have ne2 : e ≠ e2 := fun z => by
        have q := (N4 _ (.tail _ (.head _))).1
        rw [z, hm2.new] at q; cases q
      have hc5 : Chain h5 e2 := .inr ⟨e, excO_at N5 (by k_mem) x₃, ne2, excO_at N5 (by k_mem) x₂⟩
      refine raise_new_at U₃ hm3 rfl hc5 rfl rfl B₃ F5 fun h7 ff7 U7 S7 => ?_
      refine up_noted rfl rfl U7 (.inl rfl) fun h8 U8 k8 => ?_
      refine up_back rfl U8 fun h9 U9 k9 => ?_
      refine up_noted rfl rfl U9 (.inr (.inr rfl)) fun h10 U10 k10 => ?_
      refine up_back rfl U10 fun h11 U11 k11 => ?_
      refine up_leaving rfl rfl U11 (.inr (.inr rfl)) fun h12 U12 k12 => ?_
      subst hg
      have T₂₃ := T₂.trans T₃
      rw [fr_cons hf] at T₂₃
      have ex := exit_slot N T₂₃ F5 fun p hp => N5 p (.tail _ (.tail _ (.tail _ hp)))
      have up7 := ((((S7.toUp.trans k8).trans k9).trans k10).trans k11).trans k12
      have S12 := slot_of_up ff7 U12.stays up7
      have S12' : SlotR (L' :: fr (env :: outer)) h5 h12 := S12
      rw [fr_cons hf] at S12'
      have fin : SlotR (L :: fr outer) s.heap h12 := SlotR.more ((ex.more (Fs' := L' :: L :: fr outer) fun b hb => .inl (.tail _ hb)).trans S12') fun b hb => by
        rcases List.mem_cons.mp hb with rfl | hb
        · exact .inr hL'
        · exact .inl hb
      refine herr e3 _ h12 _ (Up.weaken U12 fun b o q => ?_) fin
      have q1 := of_hideAll _ q
      have nb : b ∉ L :: fr outer := fun z => by rw [hideAll_none _ z] at q; cases q
      refine hideAll_get _ ((ex b o q1).1 nb) fun z => ?_
      rcases List.mem_cons.mp z with rfl | z
      · rw [hL'] at q1; cases q1
      · exact nb ((fr_cons (outer := outer) hf) ▸ z))
end
end Mine
end PartE3

local macro_rules | `(tactic| walk_at "no key") => `(tactic| fail)
local macro_rules | `(tactic| walk_at "no key") => `(tactic| fail)
local macro_rules | `(tactic| walk_at "no key") => `(tactic| fail)
local macro_rules | `(tactic| walk_at "no key") => `(tactic| fail)
local macro_rules | `(tactic| walk_at "no key") => `(tactic| fail)
section PartE4
open PySem PySem.W PyProof.Rows PySem.Calls PySem.Spec
set_option linter.all false
namespace Mine
section
variable {pt : Program} {w : World} {mean : ExcName → Option Value} {mg mb : Str → Option Value} {dp un : Nat} {gd : Option (List Code)} {env : Env} {outer : List Env} {A₀ : Around} {base h₀ : Heap} {L : Addr} {m : Str → Option Value} {news : List (Addr × Obj)} {s : Shared} {Q E : Value → Shared → Prop} {loose : List Str}
local macro_rules | `(tactic| ke_room) => `(tactic| ktr_units)
local macro_rules | `(tactic| k_units) => `(tactic| ktr_units)
local macro_rules | `(tactic| k_room) => `(tactic| ktr_room)
local macro_rules | `(tactic| walk_at "StrBack") => `(tactic| (k_dflt (dsimp only [StrBack]); (try k_fold)))
local macro_rules | `(tactic| walk_at "CmpBack") => `(tactic| (k_dflt (dsimp only [CmpBack]); (try k_fold)))
local macro_rules | `(tactic| walk_at "call ref") => `(tactic| (k_here; (with_reducible show wpAny _ _ (call (Value.ref 176) [_, _]) _ _ _); k_dflt (first
  | (with_reducible show wpAny _ _ (call (Value.ref 176) [_, Value.none]) _ _ _; refine' new_call (o := none) (t2 := 0) ?k1 ?k2 ?k3 ?k4 ?k5 ?kK ?kd ?ku ?_)
  | (refine' new_call (o := some _) ?k1 ?k2 ?k3 ?k4 ?k5 ?kK ?kd ?ku ?_)); (case k1 => k_asm); (case k2 => k_asm); (case k3 => k_asm); (case k4 => k_asm); (case k5 => k_asm); (case kK => exact rfl); (case kd => ktr_room); (case ku => ktr_units); k_dflt (all_goals (intros; (try dsimp only [StrBack, CmpBack]); (try dsimp only); (try k_fold)))))
theorem finish_rf {Fs : List Addr} {g' h' : Heap} {L' xx fd : Addr} {m' : Str → Option Value} {o1 o2 : Obj} {P : Prop} (N : News h₀ L s.heap news) (T : KtsTurn Fs (hideAll s.heap (news.map (·.1))) g') (F : Fr g' L' h' m') (N' : News g' L' h' ((xx, o1) :: (fd, o2) :: news)) (lt : ∀ p ∈ news, p.1 < fd) (ltx : fd < xx)
    (k : SlotR Fs s.heap h' → s.heap.get? xx = none → s.heap.get? fd = none → h'.get? xx = some o1 → h'.get? fd = some o2 → P) : P :=
  k (exit_slot N T F fun p hp => N' p (.tail _ (.tail _ hp))) (fresh_in T (N' _ (.head _)).2.2 fun p hp => Nat.lt_trans (lt p hp) ltx) (fresh_in T (N' _ (.tail _ (.head _))).2.2 lt) (N' _ (.head _)).1 (N' _ (.tail _ (.head _))).1
set_option maxRecDepth 100000 in
set_option maxHeartbeats 8000000 in
theorem create_num
  {x : Str} {t : Tok} {i : Int}
  (B : Below A₀ base outer h₀) (F : Fr h₀ L s.heap m) (X : (Mine.hd.heap_39 w.params).In h₀) (N : News h₀ L s.heap news) (T : Top pt loose mean mg mb h₀) (D : KtsDicts (fr outer) h₀) (hk : env.scope.kind = .function) (hf : env.frame = some L) (hd : dp + 4 < recursionLimit) (hu : un + 100 < cLine)
  (hx : x.length ≤ 640) (h0 : PySem.intText? x = some i)
  (hret : ∀ xx fd k1 k2 k3 t1 t2 t3 h' tk', SlotR (L :: fr outer) s.heap h' → s.heap.get? xx = none → s.heap.get? fd = none → h'.get? xx = some (instObj 176 fd) → h'.get? fd = some (rfD w.params i none k1 k2 k3 t1 t2 t3) → Q (.ref xx) { s with heap := h', toks := tk' }) :
  wpC (model PySem.Challenge.rw_bq5007_01.row.prog w) (gTop dp un gd env outer) (call (.ref 156) [.str x t]) Q E s := by
  w_strict (
    w_top off
    refine wpC_call ?_
    (refine' enter_C ?k1 ?k2 ?k3 ?k4 ?k5 ?kD ?kA ?kF ?kK ?k6 ?k7 ?k8 ?k9 ?kB ?_ ?c2 ?c3 ?c4 ?c5); (case kA => exact rfl); (case kF => exact hf); (case kK => assumption); (case k1 => k_asm); (case k2 => k_asm); (case k3 => k_asm); (case k4 => k_asm); (case k5 => k_asm); (case kD => assumption); (case k6 => k_is); (case k7 => k_is); (case k8 => ktr_room); (case k9 => exact BindsTo.of_eq rfl); (case c5 => decide); (case kB => exact locs rfl); (case c2 => exact rfl); (case c3 => exact rfl); (case c4 => exact rfl); k_whole
    intro g L' h₁ hg F' N' B' X' T' D' hk₁ hL'
    (try dsimp only); (try k_lift B'); (try k_fold)
    refine wpC_of ?_
    k_steps
    subst hg
    have KT : KtsTurn (L :: fr outer) (hideAll s.heap (news.map (·.1))) _ := KtsTurn.refl
    refine' finish_rf (o1 := instObj 176 _) (o2 := rfD w.params i none _ _ _ _ _ _) (Fs := L :: fr outer) N KT ?F ?N ?lt ?ltx fun a1 a2 a3 a4 a5 => hret _ _ _ _ _ _ _ _ _ _ a1 a2 a3 a4 a5
    case N => refine' news_rf (o := none) (t2 := 0) ?N ?e; (case N => k_asm); (case e => simp [fullV, *])
    case F => k_asm
    case lt => first | assumption | exact allLt_mem (by assumption)
    case ltx => assumption)
set_option maxRecDepth 100000 in
set_option maxHeartbeats 8000000 in
theorem create_C
  {x : Str} {t : Tok}
  (B : Below A₀ base outer h₀) (F : Fr h₀ L s.heap m) (X : (Mine.hd.heap_39 w.params).In h₀) (N : News h₀ L s.heap news) (T : Top pt loose mean mg mb h₀) (XB : (Mine.hd.heap_39 w.params).In base) (TB : Top pt loose mean mg mb base) (D : KtsDicts (fr outer) h₀) (hk : env.scope.kind = .function) (hf : env.frame = some L) (hd : dp + 4 < recursionLimit) (hu : un + 100 < cLine) (hgd : gd = some [])
  (hx : Small x) (hkind : Kind x)
  (hret : ∀ i o xx fd k1 k2 k3 t1 t2 t3 h' tk', factor x = some (i, o) → (-1000 ≤ i ∧ i ≤ 1000 ∧ ∀ b, o = some b → -1000 ≤ b ∧ b ≤ 1000) → SlotR (L :: fr outer) s.heap h' → s.heap.get? xx = none → s.heap.get? fd = none → h'.get? xx = some (instObj 176 fd) → h'.get? fd = some (rfD w.params i o k1 k2 k3 t1 t2 t3) → Q (.ref xx) { s with heap := h', toks := tk' })
  (herr : factor x = none → ∀ e ctx h' tk', Up (hideAll s.heap (L :: fr outer)) (env :: outer) e (.type "ValueError") ctx (some .none) h' → SlotR (L :: fr outer) s.heap h' → E (.ref e) { s with heap := h', toks := tk' }) :
  wpC (model PySem.Challenge.rw_bq5007_01.row.prog w) (gTop dp un gd env outer) (call (.ref 156) [.str x t]) Q E s := by
  cases hkind with
  | whole i e h0 b1 b2 =>
    exact create_num B F X N T D hk hf hd hu (Nat.le_trans hx.len (by decide)) h0 fun xx fd k1 k2 k3 t1 t2 t3 h' tk' s1 s2 s3 s4 s5 => hret i none xx fd k1 k2 k3 t1 t2 t3 h' tk' e ⟨b1, b2, fun b z => by cases z⟩ s1 s2 s3 s4 s5
  | slash i b y0 y1 ys e h0 hsp h1 h2 s1 s2 b1 b2 b3 b4 =>
    exact create_slash B F X N T XB TB D hk hf hd hu hx.len (Nat.le_trans s1.len (by decide)) (Nat.le_trans s2.len (by decide)) hx.cps h0 hsp h1 h2 fun xx fd k1 k2 k3 t1 t2 t3 h' tk' s1 s2 s3 s4 s5 => hret i (some b) xx fd k1 k2 k3 t1 t2 t3 h' tk' e ⟨b1, b2, fun b' z => by cases z; exact ⟨b3, b4⟩⟩ s1 s2 s3 s4 s5
  | miss y0 ys e h0 hsp hbad hall hshow =>
    exact create_miss B F X N T XB TB D hk hf hd hu hgd hx.len hx.cps h0 hsp hbad (fun y hy => (hall y hy).cps) (fun y hy => (hall y hy).len) hshow (herr e)
end
end Mine
end PartE4

local macro_rules | `(tactic| walk_at "no key") => `(tactic| fail)
local macro_rules | `(tactic| walk_at "no key") => `(tactic| fail)
local macro_rules | `(tactic| walk_at "no key") => `(tactic| fail)
local macro_rules | `(tactic| walk_at "no key") => `(tactic| fail)
section PartE5
open PySem PySem.W PyProof.Rows PySem.Calls PySem.Spec
set_option linter.all false
namespace Mine
section
variable {pt : Program} {w : World} {mean : ExcName → Option Value} {mg mb : Str → Option Value} {dp un : Nat} {gd : Option (List Code)} {cn : Str} {cs : Scope} {a : Addr} {ccd : Value} {cl : List (Str × Addr)} {outer : List Env} {A₀ : Around} {base h₀ : Heap} {L : Addr} {m : Str → Option Value} {news : List (Addr × Obj)} {s : Shared} {Q E : Value → Shared → Prop} {loose : List Str}
local macro_rules | `(tactic| ke_room) => `(tactic| ktr_units)
local macro_rules | `(tactic| k_units) => `(tactic| ktr_units)
local macro_rules | `(tactic| k_room) => `(tactic| ktr_room)
local macro_rules | `(tactic| walk_at "StrBack") => `(tactic| (k_dflt (dsimp only [StrBack]); (try k_fold)))
local macro_rules | `(tactic| walk_at "CmpBack") => `(tactic| (k_dflt (dsimp only [CmpBack]); (try k_fold)))
def ssD (P : Params) (kt : Tok) (xx : Addr) : Obj := dictOf [⟨PyData.keyHash P (Str.ofString "replication_factor_info"), .str (Str.ofString "replication_factor_info") kt, .ref xx⟩] 1
set_option maxRecDepth 100000 in
set_option maxHeartbeats 8000000 in
theorem simple_C
  {x : Str} {hd' : Addr} {o : Obj} {kvs : List (Str × Value)}
  (B : Below A₀ base outer h₀) (F : Fr h₀ L s.heap m) (X : (Mine.hd.heap_39 w.params).In h₀) (N : News h₀ L s.heap news) (hm : (hd', o) ∈ news) (ho : o.IsDictOf (PySem.strKind PySem.Challenge.rw_bq5007_01.row.prog w) kvs) (hfl : PyProof.V.FlatPairs PyData.str kvs [(PyData.str (Str.ofString "replication_factor"), PyData.str x)]) (lo : (hd' == sysModules) = false) (T : Top pt loose mean mg mb h₀) (XB : (Mine.hd.heap_39 w.params).In base) (TB : Top pt loose mean mg mb base) (D : KtsDicts (fr outer) h₀) (hk : cs.kind = .function) (hd : dp + 6 < recursionLimit) (hu : un + 200 < cLine) (hgd : gd = some [])
  (hx : Small x) (hkind : Kind x)
  (hret : ∀ i oo xo dx xx fd kq q1 q2 q3 t1 t2 t3 h' tk', factor x = some (i, oo) → (-1000 ≤ i ∧ i ≤ 1000 ∧ ∀ b, oo = some b → -1000 ≤ b ∧ b ≤ 1000) → SlotR (L :: fr outer) s.heap h' → Fresh s.heap h' [(xo, instObj 226 dx), (dx, ssD w.params kq xx), (xx, instObj 176 fd), (fd, rfD w.params i oo q1 q2 q3 t1 t2 t3)] → Q (.ref xo) { s with heap := h', toks := tk' })
  (herr : factor x = none → ∀ e ctx h' tk', Up (hideAll s.heap (L :: fr outer)) (envX cn cs L a ccd cl :: outer) e (.type "ValueError") ctx (some .none) h' → SlotR (L :: fr outer) s.heap h' → E (.ref e) { s with heap := h', toks := tk' }) :
  wpC (model PySem.Challenge.rw_bq5007_01.row.prog w) (ktrTop dp un gd cn cs L a ccd cl outer) (call (.ref 226) [.ref hd']) Q E s := by
  subst hgd
  w_strict (
    w_top off
    refine wpC_call ?_
    refine' make_KC F N (X.keeps F.keep) ?k4 ?k5 ?k6 ?_
    case k4 => k_is
    case k5 => k_is
    case k6 => k_is
    k_whole
    intro xo dx h1 F1 N1 lt1 ltx k1 n1 n2
    have N2 := news_cons N1 (.tail _ (.tail _ hm))
    (refine' enter_C ?k1 ?k2 ?k3 ?k4 ?k5 ?kD ?kA ?kF ?kK ?k6 ?k7 ?k8 ?k9 ?kB ?_ ?c2 ?c3 ?c4 ?c5); (case kA => exact rfl); (case kF => exact rfl); (case kK => assumption); (case k1 => k_asm); (case k2 => k_asm); (case k3 => k_asm); (case k4 => k_asm); (case k5 => k_asm); (case kD => assumption); (case k6 => k_is); (case k7 => k_is); (case k8 => ktr_room); (case k9 => exact BindsTo.of_eq rfl); (case c5 => decide); (case kB => exact locs rfl); (case c2 => exact rfl); (case c3 => exact rfl); (case c4 => exact rfl); k_whole
    intro g L' h₁ hg F' N' B' X' T' D' hk₁ hL'
    (try dsimp only); (try k_lift B'); (try k_fold)
    refine C_last (C_assign_attr (C_call_attr (pl := _) ?_))
    k_steps
    · exact keepsOk_K (X'.keeps F'.keep) (by k_is)
    refine' create_C B' F' X' N' T' XB TB D' rfl rfl ?hd ?hu rfl hx hkind ?_ ?_
    case hd => ktr_room
    case hu => exact (show un + 4 + 100 < cLine from by omega)
    · intro i oo xx fd q1 q2 q3 t1 t2 t3 h3 tk3 hfac hbd S3 n3 n4 e3 e4
      obtain ⟨g3, T3, F3, N3, B3, D3⟩ := turn B' F' N' D' S3
      have N4 := (Fresh.cons (p := (xx, instObj 176 fd)) n3 e3 (Fresh.cons (p := (fd, rfD w.params i oo q1 q2 q3 t1 t2 t3)) n4 e4 .nil)).ledger F' T3 N3
      have X3 := XB.keeps B3.stays
      have TT3 := TB.keeps B3.stays
      simp only [List.cons_append, List.nil_append] at N4
      clear N3
      have a1 := allLt_of lt1
      have a2 : @LT.lt Nat _ dx xo := ltx
      have a3 : @LT.lt Nat _ hd' dx := lt1 _ hm
      have a4 : @Ne Nat xx dx := fun z => by
        have q := (N' _ (.tail _ (.tail _ (.head _)))).1
        rw [show dx = xx from z.symm, n3] at q; cases q
      have a5 : @Ne Nat fd dx := fun z => by
        have q := (N' _ (.tail _ (.tail _ (.head _)))).1
        rw [show dx = fd from z.symm, n4] at q; cases q
      k_steps
      refine And.intro rfl ?_
      rename_i h5 F5 N5
      subst hg
      have up : ∀ b, h₁.get? b = none → s.heap.get? b = none := fun b q => (SlotR.keeps (Fs := []) fun b o z => hk₁ b o (k1 b o z)).back q
      have fresh := Fresh.cons (p := (xo, _)) n2 (N5 _ (.tail _ (.tail _ (.tail _ (.head _))))).1 (Fresh.cons (p := (dx, ssD w.params _ xx)) n1 (N5 _ (.tail _ (.tail _ (.tail _ (.tail _ (.head _)))))).1 (Fresh.cons (p := (xx, _)) (up _ n3) (N5 _ (.head _)).1 (Fresh.cons (p := (fd, _)) (up _ n4) (N5 _ (.tail _ (.head _))).1 .nil)))
      refine hret i oo xo dx xx fd _ q1 q2 q3 t1 t2 t3 h5 _ hfac hbd (exit_slot2 (news := news) k1 T3 F5 (fun p hp => (N p hp).1) (fun p hp => N5 p (.tail _ (.tail _ (.tail _ (.tail _ (.tail _ hp)))))) fun b hb => ?_) fresh
      obtain ⟨p, hp, rfl⟩ := List.mem_map.mp hb
      rcases List.mem_cons.mp hp with rfl | hp
      · exact .inl (List.mem_map_of_mem hm)
      · rcases List.mem_cons.mp hp with rfl | hp
        · exact .inr n2
        · rcases List.mem_cons.mp hp with rfl | hp
          · exact .inr n1
          · exact .inl (List.mem_map_of_mem hp)
    · intro hfac e ctx h3 tk3 U3 S3
      refine leave_err (h := s.heap) B' F' rfl rfl rfl U3 (.inr (.inl rfl)) S3 (fun b o z => hk₁ b o (k1 b o z)) ?_ fun h4 U4 S4 => herr hfac e ctx h4 _ U4 S4
      exact (SlotR.keeps (Fs := []) k1).back hL')
end
end Mine
end PartE5

local macro_rules | `(tactic| walk_at "no key") => `(tactic| fail)
local macro_rules | `(tactic| walk_at "no key") => `(tactic| fail)
local macro_rules | `(tactic| walk_at "no key") => `(tactic| fail)
section PartE6
open PySem PySem.W PyProof.Rows PySem.Calls PySem.Spec
set_option linter.all false
namespace Mine
section
variable {pt : Program} {w : World} {mean : ExcName → Option Value} {mg mb : Str → Option Value} {dp un : Nat} {gd : Option (List Code)} {cn : Str} {cs : Scope} {a : Addr} {ccd : Value} {cl : List (Str × Addr)} {outer : List Env} {A₀ : Around} {base h₀ : Heap} {L : Addr} {m : Str → Option Value} {news : List (Addr × Obj)} {s : Shared} {Q E : Value → Shared → Prop} {loose : List Str}
local macro_rules | `(tactic| ke_room) => `(tactic| ktr_units)
local macro_rules | `(tactic| k_units) => `(tactic| ktr_units)
local macro_rules | `(tactic| k_room) => `(tactic| ktr_room)
local macro_rules | `(tactic| walk_at "StrBack") => `(tactic| (k_dflt (dsimp only [StrBack]); (try k_fold)))
local macro_rules | `(tactic| walk_at "CmpBack") => `(tactic| (k_dflt (dsimp only [CmpBack]); (try k_fold)))
set_option maxRecDepth 100000 in
set_option maxHeartbeats 8000000 in
theorem rs_simple_C
  {x : Str} {t : Tok} {hd' : Addr} {o : Obj} {kvs : List (Str × Value)}
  (B : Below A₀ base outer h₀) (F : Fr h₀ L s.heap m) (X : (Mine.hd.heap_39 w.params).In h₀) (N : News h₀ L s.heap news) (hm : (hd', o) ∈ news) (ho : o.IsDictOf (PySem.strKind PySem.Challenge.rw_bq5007_01.row.prog w) kvs) (hfl : PyProof.V.FlatPairs PyData.str kvs [(PyData.str (Str.ofString "replication_factor"), PyData.str x)]) (lo : (hd' == sysModules) = false) (T : Top pt loose mean mg mb h₀) (XB : (Mine.hd.heap_39 w.params).In base) (TB : Top pt loose mean mg mb base) (D : KtsDicts (fr outer) h₀) (hk : cs.kind = .function) (hd : dp + 10 < recursionLimit) (hu : un + 300 < cLine) (hgd : gd = some [])
  (hx : Small x) (hkind : Kind x)
  (hret : ∀ i oo xo dx xx fd kq q1 q2 q3 t1 t2 t3 h' tk', factor x = some (i, oo) → (-1000 ≤ i ∧ i ≤ 1000 ∧ ∀ b, oo = some b → -1000 ≤ b ∧ b ≤ 1000) → SlotR (L :: fr outer) s.heap h' → Fresh s.heap h' [(xo, instObj 226 dx), (dx, ssD w.params kq xx), (xx, instObj 176 fd), (fd, rfD w.params i oo q1 q2 q3 t1 t2 t3)] → Q (.ref xo) { s with heap := h', toks := tk' })
  (hnone : factor x = none → ∀ h' tk', SlotR (L :: fr outer) s.heap h' → Q .none { s with heap := h', toks := tk' }) :
  codeC (model PySem.Challenge.rw_bq5007_01.row.prog w) (ktrTop dp un gd cn cs L a ccd cl outer) (.call (.ref 42) ⟨[.ref 62, .str (Str.ofString "org.apache.cassandra.locator.SimpleStrategy") t, .ref hd'], []⟩) (fun r s' => match r with | .ok (.ret v) => Q v s' | .ok _ => False | .error e => E e s') s := by
  subst hgd
  w_strict (
    w_top off
    have N2 := news_cons N hm
    (refine' enter_C ?k1 ?k2 ?k3 ?k4 ?k5 ?kD ?kA ?kF ?kK ?k6 ?k7 ?k8 ?k9 ?kB ?_ ?c2 ?c3 ?c4 ?c5); (case kA => exact rfl); (case kF => exact rfl); (case kK => assumption); (case k1 => k_asm); (case k2 => k_asm); (case k3 => k_asm); (case k4 => exact N2); (case k5 => k_asm); (case kD => assumption); (case k6 => k_is); (case k7 => k_is); (case k8 => ktr_room); (case k9 => exact BindsTo.of_eq rfl); (case c5 => decide); (case kB => exact locs rfl); (case c2 => exact rfl); (case c3 => exact rfl); (case c4 => exact rfl); k_whole
    intro g L' h₁ hg F' N' B' X' T' D' hk₁ hL'
    (try dsimp only); (try k_lift B'); (try k_fold)
    refine A_cons ?_
    k_steps
    dsimp only
    refine A_cons ?_
    k_steps
    dsimp only
    refine A_cons ?_
    k_steps
    dsimp only
    refine A_cons ?_
    k_steps
    dsimp only
    refine C_cons (C_try ?_)
    refine C_last (C_assign_name (C_call_name ?_))
    k_steps
    · exact keepsOk_K (X'.keeps (Fr.keep (by assumption))) (by k_is)
    rename_i h3 F3 N3
    subst hg
    have S3 := exit_slot (Fs := L :: fr outer) N2 KtsTurn.refl F3 fun p hp => N3 p (.tail _ hp)
    refine' simple_C B' F3 X' N3 (by k_mem) ho hfl lo T' XB TB D' rfl ?hd ?hu rfl hx hkind ?_ ?_
    case hd => ktr_room
    case hu => exact (show un + 3 + 200 < cLine from by omega)
    · intro i oo xo dx xx fd kq q1 q2 q3 t1 t2 t3 h4 tk4 hfac hbd S4 fr4
      obtain ⟨g4, T4, F4, N4, B4, D4⟩ := turn B' F3 N3 D' S4
      have N5 := fr4.ledger F3 T4 N4
      have X4 := XB.keeps B4.stays
      have TT4 := TB.keeps B4.stays
      simp only [List.cons_append, List.nil_append] at N5
      clear N4 B' D' X' T'
      k_steps
      dsimp only
      refine C_nil ?_
      dsimp only
      refine C_last (wpC_of ?_)
      k_steps
      rename_i h5 F5 N6
      refine hret i oo xo dx xx fd kq q1 q2 q3 t1 t2 t3 h5 _ hfac hbd (exit_slot N2 T4 F5 fun p hp => N6 p (.tail _ (.tail _ (.tail _ (.tail _ (.tail _ hp)))))) fun p hp => ⟨S3.back (fr4 p hp).1, ?_⟩
      rcases List.mem_cons.mp hp with rfl | hp
      · exact (N6 _ (.head _)).1
      · rcases List.mem_cons.mp hp with rfl | hp
        · exact (N6 _ (.tail _ (.head _))).1
        · rcases List.mem_cons.mp hp with rfl | hp
          · exact (N6 _ (.tail _ (.tail _ (.head _)))).1
          · rcases List.mem_cons.mp hp with rfl | hp
            · exact (N6 _ (.tail _ (.tail _ (.tail _ (.head _))))).1
            · cases hp
    · intro hfac e ctx h4 tk4 U4 S4
      dsimp only
      refine catch_as (T' := "Exception") rfl rfl rfl rfl B' F3 N3 D' U4 (.inr (.inl rfl)) S4 (by kts_sub) (by rfl) (by kts_sub) rfl ?_ ?_
      · intro g' s₂ Q' E' F₂ B₂ q
        have X₂ := XB.keeps B₂.stays
        have T₂ := TB.keeps B₂.stays
        k_steps
        exact q
      intro g₂ h₂ oe tk E' T₂ F₂ N₂ B₂ D₂
      have X₂ := XB.keeps B₂.stays
      have TT₂ := TB.keeps B₂.stays
      clear B' D' X' T' F3 N3
      k_steps
      rename_i h5 v5 F5 N6
      exact hnone hfac h5 _ (exit_slot N2 T₂ F5 fun p hp => N6 p (.tail _ (.tail _ hp))))
end
end Mine
end PartE6

local macro_rules | `(tactic| walk_at "no key") => `(tactic| fail)
local macro_rules | `(tactic| walk_at "no key") => `(tactic| fail)
local macro_rules | `(tactic| walk_at "no key") => `(tactic| fail)
section PartE7
open PySem PySem.W PyProof.Rows PySem.Calls PySem.Spec
set_option linter.all false
namespace Mine
section
variable {pt : Program} {w : World} {mean : ExcName → Option Value} {mg mb : Str → Option Value} {dp un : Nat} {gd : Option (List Code)} {cn : Str} {cs : Scope} {a : Addr} {ccd : Value} {cl : List (Str × Addr)} {outer : List Env} {A₀ : Around} {base h₀ : Heap} {L : Addr} {m : Str → Option Value} {news : List (Addr × Obj)} {s : Shared} {Q E : Value → Shared → Prop} {loose : List Str}
local macro_rules | `(tactic| ke_room) => `(tactic| ktr_units)
local macro_rules | `(tactic| k_units) => `(tactic| ktr_units)
local macro_rules | `(tactic| k_room) => `(tactic| ktr_room)
local macro_rules | `(tactic| walk_at "StrBack") => `(tactic| (k_dflt (dsimp only [StrBack]); (try k_fold)))
local macro_rules | `(tactic| walk_at "CmpBack") => `(tactic| (k_dflt (dsimp only [CmpBack]); (try k_fold)))
set_option maxRecDepth 100000 in
set_option maxHeartbeats 8000000 in
theorem simple_empty_C
  {hd' : Addr} {o : Obj}
  (B : Below A₀ base outer h₀) (F : Fr h₀ L s.heap m) (X : (Mine.hd.heap_39 w.params).In h₀) (N : News h₀ L s.heap news) (hm : (hd', o) ∈ news) (ho : o.IsDictOf (PySem.strKind PySem.Challenge.rw_bq5007_01.row.prog w) []) (lo : (hd' == sysModules) = false) (T : Top pt loose mean mg mb h₀) (D : KtsDicts (fr outer) h₀) (hk : cs.kind = .function) (hd : dp + 6 < recursionLimit) (hu : un + 200 < cLine)
  (herr : ∀ e ctx h' tk', Up (hideAll s.heap (L :: fr outer)) (envX cn cs L a ccd cl :: outer) e (.type "KeyError") ctx (some .none) h' → SlotR (L :: fr outer) s.heap h' → E (.ref e) { s with heap := h', toks := tk' }) :
  wpC (model PySem.Challenge.rw_bq5007_01.row.prog w) (ktrTop dp un gd cn cs L a ccd cl outer) (call (.ref 226) [.ref hd']) Q E s := by
  w_strict (
    w_top off
    refine wpC_call ?_
    refine' make_KC F N (X.keeps F.keep) ?k4 ?k5 ?k6 ?_
    case k4 => k_is
    case k5 => k_is
    case k6 => k_is
    k_whole
    intro xo dx h1 F1 N1 lt1 ltx k1 n1 n2
    have N2 := news_cons N1 (.tail _ (.tail _ hm))
    (refine' enter_C ?k1 ?k2 ?k3 ?k4 ?k5 ?kD ?kA ?kF ?kK ?k6 ?k7 ?k8 ?k9 ?kB ?_ ?c2 ?c3 ?c4 ?c5); (case kA => exact rfl); (case kF => exact rfl); (case kK => assumption); (case k1 => k_asm); (case k2 => k_asm); (case k3 => k_asm); (case k4 => k_asm); (case k5 => k_asm); (case kD => assumption); (case k6 => k_is); (case k7 => k_is); (case k8 => ktr_room); (case k9 => exact BindsTo.of_eq rfl); (case c5 => decide); (case kB => exact locs rfl); (case c2 => exact rfl); (case c3 => exact rfl); (case c4 => exact rfl); k_whole
    intro g L' h₁ hg F' N' B' X' T' D' hk₁ hL'
    (try dsimp only); (try k_lift B'); (try k_fold)
    refine C_last (C_assign_attr (C_call_attr (pl := _) ?_))
    k_steps
    refine item_strTab_missing (D := []) ⟨lo, [], Heap.dictOf_iff.mpr ⟨o, (N' _ (.head _)).1, ho⟩, .nil⟩ rfl rfl fun h3 e hm3 => ?_
    refine leave_new (h := s.heap) B' F' hm3 rfl rfl rfl (fun b o z => hk₁ b o (k1 b o z)) ?_ fun h4 U4 S4 => herr e _ h4 _ U4 S4
    exact (SlotR.keeps (Fs := []) k1).back hL')
set_option maxRecDepth 100000 in
set_option maxHeartbeats 8000000 in
theorem rs_empty_C
  {t : Tok} {hd' : Addr} {o : Obj}
  (B : Below A₀ base outer h₀) (F : Fr h₀ L s.heap m) (X : (Mine.hd.heap_39 w.params).In h₀) (N : News h₀ L s.heap news) (hm : (hd', o) ∈ news) (ho : o.IsDictOf (PySem.strKind PySem.Challenge.rw_bq5007_01.row.prog w) []) (lo : (hd' == sysModules) = false) (T : Top pt loose mean mg mb h₀) (XB : (Mine.hd.heap_39 w.params).In base) (TB : Top pt loose mean mg mb base) (D : KtsDicts (fr outer) h₀) (hk : cs.kind = .function) (hd : dp + 10 < recursionLimit) (hu : un + 300 < cLine) 
  (hnone : ∀ h' tk', SlotR (L :: fr outer) s.heap h' → Q .none { s with heap := h', toks := tk' }) :
  codeC (model PySem.Challenge.rw_bq5007_01.row.prog w) (ktrTop dp un gd cn cs L a ccd cl outer) (.call (.ref 42) ⟨[.ref 62, .str (Str.ofString "SimpleStrategy") t, .ref hd'], []⟩) (fun r s' => match r with | .ok (.ret v) => Q v s' | .ok _ => False | .error e => E e s') s := by
  w_strict (
    have N2 := news_cons N hm
    (refine' enter_C ?k1 ?k2 ?k3 ?k4 ?k5 ?kD ?kA ?kF ?kK ?k6 ?k7 ?k8 ?k9 ?kB ?_ ?c2 ?c3 ?c4 ?c5); (case kA => exact rfl); (case kF => exact rfl); (case kK => assumption); (case k1 => k_asm); (case k2 => k_asm); (case k3 => k_asm); (case k4 => exact N2); (case k5 => k_asm); (case kD => assumption); (case k6 => k_is); (case k7 => k_is); (case k8 => ktr_room); (case k9 => exact BindsTo.of_eq rfl); (case c5 => decide); (case kB => exact locs rfl); (case c2 => exact rfl); (case c3 => exact rfl); (case c4 => exact rfl); k_whole
    intro g L' h₁ hg F' N' B' X' T' D' hk₁ hL'
    (try dsimp only); (try k_lift B'); (try k_fold)
    refine A_cons ?_
    k_steps
    dsimp only
    refine A_cons ?_
    k_steps
    dsimp only
    refine A_cons ?_
    k_steps
    dsimp only
    refine A_cons ?_
    k_steps
    dsimp only
    refine C_cons (C_try ?_)
    refine C_last (C_assign_name (C_call_name ?_))
    k_steps
    · exact keepsOk_K (X'.keeps (Fr.keep (by assumption))) (by k_is)
    rename_i h3 F3 N3
    subst hg
    refine' simple_empty_C B' F3 X' N3 (by k_mem) ho lo T' D' rfl ?hd ?hu ?_
    case hd => ktr_room
    case hu => exact (show un + 3 + 200 < cLine from by omega)
    · intro e ctx h4 tk4 U4 S4
      dsimp only
      refine catch_as (T' := "Exception") rfl rfl rfl rfl B' F3 N3 D' U4 (.inr (.inl rfl)) S4 (by kts_sub) (by rfl) (by kts_sub) rfl ?_ ?_
      · intro g' s₂ Q' E' F₂ B₂ q
        have X₂ := XB.keeps B₂.stays
        have T₂ := TB.keeps B₂.stays
        k_steps
        exact q
      intro g₂ h₂ oe tk E' T₂ F₂ N₂ B₂ D₂
      have X₂ := XB.keeps B₂.stays
      have TT₂ := TB.keeps B₂.stays
      clear B' D' X' T' F3 N3
      k_steps
      rename_i h5 v5 F5 N6
      exact hnone h5 _ (exit_slot N2 T₂ F5 fun p hp => N6 p (.tail _ (.tail _ hp))))
end
end Mine
end PartE7

section PartC13
open PySem PySem.W PyProof.Rows PySem.Calls PySem.Spec
set_option linter.all false
set_option maxRecDepth 100000
namespace Mine
def RunC (M : Model) (A : Around) (c : Code) (t : Sem Fin) (Φ : End → Shared → Prop) (s : Shared) : Prop :=
  ∀ Γ p, Γ.code = c → Γ.Woken A → HasC Γ.below → ∃ e s', Runs M Γ p t [] s e s' ∧ Φ e s'
section
variable {M : Model} {A : Around} {c : Code} {Φ : End → Shared → Prop} {s : Shared}
theorem runC_wrap {α : Type} {m : Sem α} {K : α → Sem Fin} {H : Value → Sem Fin} {gd lv}
    (h : wpC M (A.over c []) m (fun a s' => RunC M A c (K a) Φ s') (fun x s' => RunC M A c (H x) Φ s') s) : RunC M A c (m.wrap K H gd lv) Φ s := by
  rintro Γ p rfl hΓ hU
  exact runs_wrap_of_wp K H gd lv m (h (Γ.over []) p (hΓ.over []) (.inr hU)) (fun a p' s' h' => h' Γ p' rfl hΓ hU) (fun x p' s' h' => h' Γ p' rfl hΓ hU)
theorem runC_bind {α β : Type} {m : Sem α} {K : α → Sem β} {K' : β → Sem Fin} {H' : Value → Sem Fin} {gd lv}
    (h : wpC M (A.over c []) m (fun a s' => RunC M A c ((K a).wrap K' H' gd lv) Φ s') (fun x s' => RunC M A c (H' x) Φ s') s) : RunC M A c ((m >>= K).wrap K' H' gd lv) Φ s := by
  rw [Sem.bind_eq_wrap', Sem.wrap_wrap]; exact runC_wrap h
theorem runC_at {p' : Pos} {k : Unit → Sem Fin} (h : RunC M A c (k ()) Φ s) : RunC M A c (.at p' k) Φ s :=
  runC_wrap (m := standAt p') (K := k) (H := .raise) (gd := id) (lv := id) (wpC_standAt h)
theorem runC_again {c' : Code} (hq : c'.quiet = true) (hc : RunC M A c' (M.den c') Φ s) : RunC M A c (.pure (.again c')) Φ s := by
  rintro Γ p rfl hΓ hU
  obtain ⟨e, s', hr, he⟩ := hc (Γ.goto c') p rfl (hΓ.goto c') hU
  exact ⟨e, s', Runs.head (c₁ := c') (fun _ _ x => .again hq x) hr, he⟩
theorem runC_end (r : Result) (h : Φ (.ret r) s) : RunC M A c (leafOf r) Φ s := by
  rintro Γ p rfl _ _
  exact ⟨.ret r, s, Runs.leaf r, h⟩
theorem runC_yield {v l} {k : Resume → Sem Fin} (h : ∀ p, Φ (.susp v false l k c p []) s) : RunC M A c (.yield v false l k) Φ s := by
  rintro Γ p rfl _ _
  exact ⟨_, s, Runs.yield' [] rfl, h p⟩
theorem wpC_resume {E : Value → Shared → Prop} {g : Nat} {gs : GenState} {r : Resume} {l : List Value} {α : Type} {k : GenResult → Sem α} {Q : α → Shared → Prop} (hg : s.gens[g]? = some gs)
    (hgo : (∃ c, gs = .fresh c ∧ r = .send .none ∧ RunC M A c (M.den c) Φ (s.setGen g .running)) ∨ (∃ k₀ l₀ c₀ p₀ cl, gs = .suspended k₀ l₀ c₀ p₀ [] cl ∧ RunC M A c₀ (k₀ r) Φ (s.setGen g .running)))
    (hR : ∀ e s₁, Φ e s₁ → e.quiet = true ∧ wpC M A (k e.result) Q E (s₁.setGen g e.genState)) : wpC M A (.resume g r l k) Q E s := by
  intro Γ p hΓ hU
  rw [Sem.wp_resume]
  have hB : ∀ c, (Γ.wake c p).Woken A := fun c => hΓ.wake c p
  have hH : ∀ c, HasC (Γ.wake c p).below := fun c => by
    show ((Γ.code, p) :: Γ.below).any _ = true
    rw [List.any_cons]
    rcases hU with h | h
    · simp [h]
    · have : Γ.below.any (fun x => x.1.isCaller) = true := h
      simp [this]
  rcases hgo with ⟨c, rfl, rfl, hs⟩ | ⟨k₀, l₀, c₀, p₀, cl, rfl, hs⟩
  · obtain ⟨e₁, s₁, hr, he⟩ := hs (Γ.wake c p) p rfl (hB c) (hH c)
    exact ⟨_, _, by unfold Wakes; rw [hg]; exact ⟨e₁, s₁, hr, (hR e₁ s₁ he).1, rfl, rfl⟩, (hR e₁ s₁ he).2 Γ p hΓ hU⟩
  · obtain ⟨e₁, s₁, hr, he⟩ := hs (Γ.wake c₀ p) p₀ rfl (hB c₀) (hH c₀)
    exact ⟨_, _, by unfold Wakes; rw [hg]; exact ⟨e₁, s₁, hr, (hR e₁ s₁ he).1, rfl, rfl⟩, (hR e₁ s₁ he).2 Γ p hΓ hU⟩
end
end Mine
end PartC13

section PartC14
open PySem PySem.W PyProof.Rows PySem.Calls PySem.Spec
set_option linter.all false
set_option maxRecDepth 100000
namespace Mine
section
variable {prog : Program} {w : World} {A : Around} {E : Value → Shared → Prop} {s : Shared}
theorem slot_C {T : String} {name : PySem.Str} {id : String} {b : Builtin} {self : Value} {rest : List Value} {Q : Value → Shared → Prop} (h : Slot T name id) (hT : s.TypeIs self T) (hb : entryFor table id = some b)
    (ha : argsOk id ⟨self :: rest, []⟩)
    (hc : wpC (model prog w) A.in1 (b ⟨self :: rest, []⟩) (fun fin s' => match fin with | .done (.ret v) => Q v s' | .done _ => False | .again c' => c'.quiet = true ∧ codeC (model prog w) A c' (fun r s' => match r with | .ok (.ret v) => Q v s' | .ok _ => False | .error e => E e s') s') E s) :
    wpC (model prog w) A (call (.builtin id) (self :: rest)) Q E s := by
  refine wpC_call (codeC_call_check (plainId_quiet h.plain _) (h.check _ _ _ _ _ _ _ _ hT ha (codeC_builtin hb ?_)))
  rw [Around.under_plainId h.plain _]
  refine wpC_mono hc (fun fin s' h' => ?_) fun _ _ x => x
  rcases fin with (_ | _ | _ | v) | c' <;> exact h'
theorem special_C {T : String} {name : PySem.Str} {id : String} {self : Value} {args : List Value} {Q : Option Value → Shared → Prop} (h : Slot T name id) (hT : s.TypeIs self T)
    (hc : wpC (model prog w) A (call (.builtin id) (self :: args)) (fun v => Q (some v)) E s) : wpC (model prog w) A (callSpecial? self name args) Q E s := by
  unfold callSpecial?
  refine wpC_cut (wpAny_specialOf hT h.lookup ?_)
  dsimp only
  refine wpC_holding ?_
  rw [h.bind, pure_bind]
  exact wpC_bind (wpC_mono hc (fun v s' h' => wpC_pure h') fun _ _ x => x)
def GoesC (M : Model) (A : Around) (gs : GenState) (Φ : End → Shared → Prop) (s : Shared) : Prop :=
  (∃ c, gs = .fresh c ∧ RunC M A c (M.den c) Φ s) ∨ (∃ k₀ l₀ c₀ p₀ cl, gs = .suspended k₀ l₀ c₀ p₀ [] cl ∧ RunC M A c₀ (k₀ (.send .none)) Φ s)
def GenPost (E : Value → Shared → Prop) (g : Nat) (Q : Option Value → Shared → Prop) (e : End) (s₁ : Shared) : Prop := match e with
  | .susp v b l k c p fs => b = false ∧ fs = [] ∧ Q (some v) (s₁.setGen g (.suspended k l c p [] false))
  | .ret (.ok f) => f = .next ∧ ∀ h', (∀ b o, s₁.heap.get? b = some o → h'.get? b = some o) → Q none { s₁.setGen g .finished with heap := h' }
  | .ret (.error e) => ∃ a X, e = .ref a ∧ (s₁.TypeIs (.ref a) X ∧ isSubtype (.type X) (.type "StopIteration") = pure false) ∧ E e (s₁.setGen g .finished)
theorem pyNext_C {a : Addr} {g : Nat} {gs : GenState} {Q : Option Value → Shared → Prop} (hh : A.handled = none) (hl : s.heap.NoLimit) (hroom : A.depth < recursionLimit) (hg : s.heap.IsGen a g) (hgs : s.gens[g]? = some gs)
    (hgo : GoesC (model prog w) A.in1 gs (fun e s₁ => s₁.heap.IsGen a g ∧ GenPost E g Q e s₁) (s.setGen g .running)) : wpC (model prog w) A (pyNext (.ref a)) Q E s := by
  unfold pyNext
  refine wpC_bind (wpC_attempt (special_C (name := PySem.Str.ofString "__next__") slot_gen_next hg.typeIs (slot_C slot_gen_next hg.typeIs entry_gen_next (args_gen_next _) ?_)))
  show wpC _ A.in1 (Builtin.Generator.genWake (.ref a) (.send .none)) _ _ s
  unfold Builtin.Generator.genWake
  refine wpC_bind (wpC_holding (wpC_of (wpAny_genNumber hg ?_)))
  refine wpC_cut (wpAny_genState hgs ?_)
  have goal : wpC (model prog w) A.in1 (roomToWake >>= fun _ => resume g (.send .none) >>= fun x => match x with
      | .yielded v => ret v
      | .returned v => (do
        if v == .none then raiseNew (← newExc (.type "StopIteration") [])
        rule "generator.return-value"; throw (← newExc (.type "StopIteration") [v]))
      | .raised e => Builtin.Generator.genLeft (.ref a) e
      | .running => (do rule "generator.already-executing"; raiseError "ValueError" "generator already executing")
      | .justStarted => (do rule "generator.send-to-fresh"; raiseError "TypeError" "can't send non-None value to a just-started generator")
      | .finished => (do raiseNew (← newExc (.type "StopIteration") []))) (fun fin s' => match fin with | .done (.ret v) => wpC (model prog w) A (pure (some v)) Q E s' | .done _ => False | .again c' => c'.quiet = true ∧ codeC (model prog w) A c' (fun r s' => match r with | .ok (.ret v) => wpC (model prog w) A (pure (some v)) Q E s' | .ok _ => False | .error e => wpC (model prog w) A (do if ← isInstance e (.type "StopIteration") then pure none else throw e) Q E s') s')
      (fun e s' => wpC (model prog w) A (do if ← isInstance e (.type "StopIteration") then pure none else throw e) Q E s') s := by
    refine wpC_cut (wpAny_roomToWake hl hroom ?_)
    show wpC _ A.in1 (.resume g (.send .none) [] _) _ _ s
    refine wpC_resume hgs (hgo.imp (fun ⟨c, h1, h2⟩ => ⟨c, h1, rfl, h2⟩) id) fun e s₁ he => ?_
    obtain ⟨hg₁, he⟩ := he
    rcases e with (e | f) | ⟨v, b, l, k, c, p, fs⟩
    · obtain ⟨b, X, rfl, ⟨hX, hsub⟩, hE⟩ := he
      refine ⟨rfl, ?_⟩
      show wpC _ _ (Builtin.Generator.genLeft (.ref a) (.ref b)) _ _ _
      obtain ⟨o, nm, qn, ho, hcl, hd, hsl⟩ := hg₁
      unfold Builtin.Generator.genLeft Builtin.Generator.madeByALambda
      refine wpC_bind (wpC_cut (wpAny_load ho (wpC_pure ?_)))
      refine wpC_cut (wpAny_isInstance hX hsub ?_)
      simp only [Bool.and_false, Bool.false_eq_true, if_false]
      unfold Builtin.Generator.genEscaped
      refine wpC_cut (wpAny_isInstance hX hsub ?_)
      simp only [Bool.not_false, if_true]
      refine wpC_of (wpAny_throw ?_)
      refine wpC_cut (wpAny_isInstance hX hsub ?_)
      simp only [Bool.false_eq_true, if_false]
      exact wpC_of (wpAny_throw hE)
    · obtain ⟨rfl, hQ⟩ := he
      refine ⟨rfl, ?_⟩
      show wpC _ _ (newExc (.type "StopIteration") [] >>= _) _ _ _
      refine wpC_bind ?_
      simp only [newExc, newTuple]
      refine wpC_cut (wpAny_newObj_type ?_ (by size_fits))
      refine wpC_cut (m := firstArgMember _ _) (wpAny_of_eq (a := Value.none) (by first | rfl | (simp only [firstArgMember]; rfl)) ?_)
      refine wpC_of (wpAny_newObj_type ?_ (by size_fits))
      simp only [raiseNew]
      refine wpC_bind (wpC_cut (wpAny_handled ?_))
      first | rw [show A.in1.handled = none from hh] | rw [hh]
      refine wpC_of (wpAny_throw ?_)
      refine wpC_cut (wpAny_isInstance (T := "StopIteration") (b := true) ⟨_, Heap.get?_push_size _ rfl, rfl⟩ isSubtype_stop ?_)
      exact wpC_pure (hQ _ fun b o hb => Heap.get?_push_of_some _ (Heap.get?_push_of_some _ hb))
    · obtain ⟨rfl, rfl, hQ⟩ := he
      refine ⟨rfl, ?_⟩
      exact wpC_pure (wpC_pure hQ)
  rcases hgo with ⟨c, rfl, _⟩ | ⟨_, _, _, _, _, rfl, _⟩
  · exact goal
  · exact goal
end
end Mine
end PartC14

section PartC15
open PySem PySem.W PyProof.Rows PySem.Calls PySem.Spec
open PySem.Builtin
set_option linter.all false
set_option maxRecDepth 100000
namespace Mine
theorem slot_gen_ga : Slot "generator" "__getattribute__" "object.__getattribute__" :=
  .of (owner := "object") (n := "__getattribute__") (by rw [typeLookup_type, builtinLookup_eq_fast]; kernel_rfl) (by decide +kernel) (by decide +kernel) (by decide +kernel)
    (by first | exact .inl (by decide +kernel) | exact .inr (by decide +kernel)) (by rw [isSubtype_type]; kernel_rfl)
theorem gen_getattr_none : typeLookup (.type "generator") "__getattr__" = pure none := by rw [typeLookup_type, builtinLookup_eq_fast]; kernel_rfl
theorem gen_keys_none : typeLookup (.type "generator") "keys" = pure none := am_miss_of_fast (by kernel_rfl)
theorem meets_miss_gen (a : Addr) (vs : Array Value) (name : PySem.Str) (u : Tok) (hmiss : typeLookup (.type "generator") name = pure none) (hname : (["__module__", "__name__", "__qualname__", "__doc__", "__annotations__"] : List PySem.Str).contains name = false) (hsz : name.length + 100 ≤ sizeLine := by size_fits) :
    Meets (Builtin.«object.__getattribute__» ⟨[.ref a, .str name u], []⟩) (fun A R s => s.heap.get? a = some { cls := .type "generator", dict := none, data := .fields vs } ∧ raisesAttr (.ref a) name A R s) :=
  Meets.of_wp fun prog w A R s hs => by
    obtain ⟨hp, g, d, tk, os⟩ := s
    obtain ⟨hx, hs⟩ := hs
    have hT : (⟨hp, g, d, tk, os⟩ : Shared).TypeIs (.ref a) "generator" := ⟨_, hx, rfl⟩
    unfold Builtin.«object.__getattribute__»
    repeat (any_goals (first | assumption | wp_step))
    simp only [hname, Bool.false_eq_true, if_false]
    repeat (any_goals (first | assumption | wp_step))
    exact wpAny_raiseAttrError hs.1 hs.2 (attrMsg_fits (by decide +kernel) hsz)
theorem no_keys {prog : Program} {w : World} {A : Around} {E : Value → Shared → Prop} {s : Shared} {a : Addr} {vs : Array Value} {Q : Option Value → Shared → Prop}
    (hx : s.heap.get? a = some { cls := .type "generator", dict := none, data := .fields vs }) (hA : A.handled = none)
    (h : ∀ h' tk, (∀ b o, s.heap.get? b = some o → h'.get? b = some o) → Q none { s with heap := h', toks := tk }) : wpAny (model prog w) A (getAttr? (.ref a) "keys") Q E s := by
  obtain ⟨hp, g, d, tk, os⟩ := s
  have hT : ∀ tk', (⟨hp, g, d, tk', os⟩ : Shared).TypeIs (.ref a) "generator" := fun _ => ⟨_, hx, rfl⟩
  have f1 := sub_AttributeError
  have f3 := slot_gen_ga.lookup
  have f4 := slot_gen_ga.bind (.ref a)
  have f5 := gen_getattr_none
  unfold getAttr? getAttrBy? getAttrBy
  repeat (any_goals (first | assumption | exact hT _ | ((with_reducible show wpAny _ _ (call (Value.builtin "object.__getattribute__") _ _) _ _ _); refine call_meets slot_gen_ga (hT _) PySem.F.entry_object_getattribute (PySem.F.args_object_getattribute_2 _ _) (meets_miss_gen a vs (PySem.Str.ofString "keys") _ gen_keys_none (by decide +kernel)) ⟨hx, hA, fun h' tk' e hx' => ?_⟩) | wp_step))
  obtain ⟨t', u', he⟩ := hx'.there
  show wpAny _ _ (getattributeRaised _ _ _ _ _ _ _) _ _ _
  unfold getattributeRaised
  repeat (any_goals (first | assumption | wp_step))
  exact h _ _ hx'.keeps
end Mine
end PartC15

section PartC16
open PySem PySem.W PyProof.Rows PySem.Calls PySem.Spec
open PySem.Builtin
set_option linter.all false
set_option maxRecDepth 100000
set_option maxHeartbeats 1000000
namespace Mine
theorem entry_uloop : entryFor table "dict.update.loop" = some Builtin.«dict.update.loop» := entryFor_of_tree (by kernel_rfl)
section
variable {prog : Program} {w : World} {A : Around} {E : Value → Shared → Prop} {s : Shared}
theorem dict_gen_C {a : Addr} {g : Nat} {vs : Array Value} {Q : Value → Shared → Prop} (hx : s.heap.get? a = some { cls := .type "generator", dict := none, data := .fields vs }) (hA : A.handled = none) (hg : s.heap.IsGen a g)
    (h : ∀ d h' tk, s.heap.get? d = none → s.heap.objs.size ≤ d → (∀ b o, s.heap.get? b = some o → h'.get? b = some o) → h'.get? d = some { cls := .type "dict", data := .dict #[] } →
      codeC (model prog w) A.in1 (.builtin "dict.update.loop" ⟨[.ref d, .ref a, rawInt 0, .none], []⟩) (fun r s' => match r with | .ok (.ret v) => v = .none ∧ Q (.ref d) s' | .ok _ => False | .error e => E e s') { s with heap := h', toks := tk }) :
    wpC (model prog w) A (call (.type "dict") [.ref a]) Q E s := by
  refine wpC_call (codeC_of_tree ?_)
  show wpC _ _ (callAny (.type "dict") _) _ _ _
  refine wpC_pure ⟨Code.quiet_builtin _ (by decide +kernel), codeC_builtin F.entry_type_call ?_⟩
  unfold Builtin.«type.__call__»
  have h1 := F.kt_called_dict.notType
  have h2 := F.kt_called_dict.canCreate
  simp only [h1, h2, Bool.false_eq_true, if_false]
  rw [F.kt_typeCall_dict_1, pure_bind, F.kt_mro_dict, pure_bind]
  simp only [List.isEmpty_cons, Bool.false_eq_true, if_false, F.kt_called_dict.made, pure_bind]
  have k1 : ∀ b o, s.heap.get? b = some o → (s.heap.push { cls := .type "dict", data := .dict #[] }).get? b = some o := fun b o q => Heap.get?_push_of_some _ q
  refine wpC_bind (wpC_holding (wpC_of (wpAny_call (codeAny_mono (kt_code_dict_new (Q₁ := fun obj s₁ => obj = .ref s.heap.objs.size ∧ s₁ = { s with heap := s.heap.push { cls := .type "dict", data := .dict #[] } }) (E := fun _ _ => False) _ ⟨rfl, rfl⟩) fun r s₁ hr => ?_))))
  rcases r with e | (_ | _ | _ | v)
  · exact (show False from hr).elim
  · exact (show False from hr).elim
  · exact (show False from hr).elim
  · exact (show False from hr).elim
  obtain ⟨rfl, rfl⟩ := (show _ ∧ _ from hr)
  dsimp only
  have hn : (s.heap.push { cls := .type "dict", data := .dict #[] }).get? s.heap.objs.size = some { cls := .type "dict", data := .dict #[] } := Heap.get?_push_size _ rfl
  have hT : ({ s with heap := s.heap.push { cls := .type "dict", data := .dict #[] } } : Shared).TypeIs (.ref s.heap.objs.size) "dict" := ⟨_, hn, rfl⟩
  refine wpC_cut (wpAny_isInstance hT F.kt_sub_dict ?_)
  simp only [Bool.not_true, Bool.false_eq_true, if_false]
  refine wpC_bind (wpC_holding (special_C (name := PySem.Str.ofString "__init__") F.slot_dict_init hT (slot_C F.slot_dict_init hT F.entry_dict_init (F.args_dict_init_2 _ _) ?_)))
  unfold Builtin.«dict.__init__»
  refine wpC_cut ?_
  unfold Builtin.Dict.selfAndRest
  refine wpAny_bind (wpAny_notOrdered_dict hT ?_)
  show wpAny _ _ (pure (s.heap.objs.size, [Value.ref a])) _ _ _
  refine wpAny_pure ?_
  show wpC _ _ (Builtin.Dict.updateFrom "dict.__init__" s.heap.objs.size (.ref a) [] .none) _ _ _
  unfold Builtin.Dict.updateFrom
  refine wpC_cut (wpAny_typeOf (show ({ s with heap := s.heap.push { cls := .type "dict", data := .dict #[] } } : Shared).TypeIs (.ref a) "generator" from ⟨_, k1 _ _ hx, rfl⟩) ?_)
  rw [if_pos (by decide)]
  refine wpC_cut (no_keys (k1 _ _ hx) hA fun h' tk k2 => ?_)
  simp only [Option.isNone_none, if_true]
  refine wpC_cut (wpAny_rule (wpC_cut (wpAny_pyIter_gen (hg.keeps fun b o q => k2 b o (k1 b o q)) ?_)))
  refine wpC_pure ⟨Code.quiet_builtin _ (by decide +kernel), codeC_mono (h s.heap.objs.size h' tk (Heap.get?_none_of_le (Nat.le_refl _)) (Nat.le_refl _) (fun b o q => k2 b o (k1 b o q)) (k2 _ _ hn)) fun r s' hr => ?_⟩
  rcases r with e | (_ | _ | _ | v)
  · exact hr
  · exact hr
  · exact hr
  · exact hr
  · obtain ⟨rfl, hq⟩ := hr
    dsimp only
    exact wpC_pure hq
end
end Mine
end PartC16

section PartC17
open PySem PySem.W PyProof.Rows PySem.Calls PySem.Spec
open PySem.Builtin
set_option linter.all false
set_option maxRecDepth 100000
set_option maxHeartbeats 1000000
namespace Mine
section
variable {prog : Program} {w : World} {A : Around} {R : Result → Shared → Prop} {s : Shared}
def LoopOn (prog : Program) (w : World) (A : Around) (R : Result → Shared → Prop) (d a : Addr) (i : Int) (x : Option Value) (s : Shared) : Prop := match x with
  | none => R (.ok (.ret .none)) s
  | some v => ∃ p o k ks t y n kvs, v = .ref p ∧ s.heap.get? p = some o ∧ o.cls = .type "tuple" ∧ o.data = .seq #[k, y] n ∧ k = .str ks t ∧ kvs.length ≤ 100 ∧ s.heap.DictOf (PySem.strKind prog w) d kvs ∧
      ∀ h' tk, h'.DictOf (PySem.strKind prog w) d (stored kvs ks y) → Heap.SameBut d s.heap h' → codeC (model prog w) A (.builtin "dict.update.loop" ⟨[.ref d, .ref a, rawInt (i + 1), .none], []⟩) R { s with heap := h', toks := tk }
theorem uloop {d a : Addr} {g : Nat} {gs : GenState} {i : Int} (hA : A.handled = none) (hl : s.heap.NoLimit) (hroom : A.depth < recursionLimit) (hg : s.heap.IsGen a g) (hgs : s.gens[g]? = some gs)
    (hgo : GoesC (model prog w) A.in1.in1 gs (fun e s₁ => s₁.heap.IsGen a g ∧ GenPost (fun e s' => R (.error e) s') g (LoopOn prog w A R d a i) e s₁) (s.setGen g .running)) :
    codeC (model prog w) A (.builtin "dict.update.loop" ⟨[.ref d, .ref a, rawInt i, .none], []⟩) R s := by
  refine codeC_builtin entry_uloop ?_
  have hu : A.under (.builtin "dict.update.loop" ⟨[.ref d, .ref a, rawInt i, .none], []⟩) = A.in1 := Around.under_plainId (by decide +kernel) _
  rw [hu]
  unfold Builtin.«dict.update.loop»
  refine wpC_bind (wpC_mono (pyNext_C (Q := LoopOn prog w A R d a i) (E := fun e s' => R (.error e) s') (show A.in1.handled = none from hA) hl hroom hg hgs hgo) (fun x s₁ hx => ?_) fun _ _ z => z)
  cases x with
  | none =>
    show wpC _ _ (Builtin.Dict.addKeywords d [] >>= _) _ _ _
    exact wpC_bind (wpC_pure (wpC_pure (show R _ _ from hx)))
  | some v =>
    obtain ⟨p, o, k, ks, t, y, n, kvs, rfl, ho, hc, hd, rfl, hz, hm, hk⟩ := hx
    dsimp only
    refine wpC_bind (wpC_holding (wpC_cut ?_))
    refine wpAny_tryCatch ?_
    unfold Builtin.Dict.pairItems
    refine wpAny_bind (wpAny_typeOf (show s₁.TypeIs (.ref p) "tuple" from ⟨o, ho, hc⟩) ?_)
    rw [if_pos (by decide)]
    refine wpAny_bind (wpAny_seqItems ho hd (wpAny_pure ?_))
    dsimp only [Option.getD_some]
    refine wpC_holding (wpC_of (wpAny_dictSet_pairs (knd := PySem.strKind prog w) (k := ks) (PySem.strKind_is prog w ks t) hm (fun h' hm' hs' => ?_) (by rw [sizeLine_eq]; omega)))
    exact wpC_pure ⟨Code.quiet_builtin _ (by decide +kernel), hk h' _ hm' hs'⟩
end
end Mine
end PartC17

section PartC18
open PySem PySem.W PyProof.Rows PySem.Calls PySem.Spec
open PySem.Builtin
set_option linter.all false
set_option maxRecDepth 100000
set_option maxHeartbeats 1000000
namespace Mine
section
variable {prog : Program} {w : World} {A : Around} {Φ : End → Shared → Prop} {s : Shared} {elt target iter : Expr} {scope : Scope} {pos : Pos} {it : Value} {cenv : Env}
abbrev gExp (elt target iter : Expr) (scope : Scope) (pos : Pos) : Expr := .GeneratorExp elt [⟨target, iter, [], 0⟩] scope pos
abbrev gLoop (elt target iter : Expr) (scope : Scope) (pos : Pos) (it : Value) (cenv : Env) : Code := .compLoop (gExp elt target iter scope pos) 0 it .none cenv
abbrev gStart (elt target iter : Expr) (scope : Scope) (pos : Pos) (it : Value) (cenv : Env) : Code := .compStart (gExp elt target iter scope pos) 0 it .none cenv
def GenErr (prog : Program) (w : World) (A' : Around) (cenv : Env) (Φ : End → Shared → Prop) (e : Value) (s' : Shared) : Prop :=
  wpAny (model prog w) A' (leaving cenv e) (fun _ s'' => Φ (.ret (.error e)) s'') (fun e' s'' => Φ (.ret (.error e')) s'') s'
theorem genErr_run {c : Code} {e : Value} (h : GenErr prog w (A.over c []) cenv Φ e s) : RunC (model prog w) A c ((leaving cenv e).wrap (fun _ => .raise e) .raise id id) Φ s :=
  runC_wrap (wpC_of (wpAny_mono h (fun _ s' h' => runC_end (.error e) h') fun e' s' h' => runC_end (.error e') h'))
theorem genTurn (hco : cenv.scope.isCoroutine = false)
    (h : wpAny (model prog w) (A.over (gLoop elt target iter scope pos it cenv) []) (pyNext it) (fun x s₁ => match x with
      | none => Φ (.ret (.ok .next)) s₁
      | some v => wpAny (model prog w) (A.over (gLoop elt target iter scope pos it cenv) []) (letOwnedTupleGo target it v) (fun _ s₂ => wpAny (model prog w) (A.over (gLoop elt target iter scope pos it cenv) []) (assign target cenv v) (fun _ s₃ =>
          wpC (model prog w) (A.over (gLoop elt target iter scope pos it cenv) []) (eval elt cenv) (fun y s₄ => ∀ l k p, (∀ Φ' s', RunC (model prog w) A (gLoop elt target iter scope pos it cenv) ((model prog w).den (gLoop elt target iter scope pos it cenv)) Φ' s' →
            RunC (model prog w) A (gLoop elt target iter scope pos it cenv) (k (.send .none)) Φ' s') → Φ (.susp y false l k (gLoop elt target iter scope pos it cenv) p []) s₄)
            (GenErr prog w (A.over (gLoop elt target iter scope pos it cenv) []) cenv Φ) s₃) (GenErr prog w (A.over (gLoop elt target iter scope pos it cenv) []) cenv Φ) s₂)
          (GenErr prog w (A.over (gLoop elt target iter scope pos it cenv) []) cenv Φ) s₁) (GenErr prog w (A.over (gLoop elt target iter scope pos it cenv) []) cenv Φ) s) :
    RunC (model prog w) A (gLoop elt target iter scope pos it cenv) ((model prog w).den (gLoop elt target iter scope pos it cenv)) Φ s := by
  show RunC _ A _ ((compTurn (gExp elt target iter scope pos) 0 it .none cenv).onRaise (leaving cenv)) Φ s
  rw [compTurn_gen, Sem.onRaise_eq_wrap]
  have er : ∀ e s', GenErr prog w (A.over (gLoop elt target iter scope pos it cenv) []) cenv Φ e s' → RunC (model prog w) A (gLoop elt target iter scope pos it cenv) ((leaving cenv e).bind fun _ => .raise e) Φ s' := fun e s' h' => by
    rw [Sem.bind_eq_wrap]; exact genErr_run h'
  refine runC_bind (wpC_standAt ?_)
  refine runC_bind (wpC_of (wpAny_mono h (fun x s₁ h₁ => ?_) er))
  cases x with
  | none => exact runC_end (.ok .next) h₁
  | some v =>
    refine runC_bind (wpC_of (wpAny_mono h₁ (fun _ s₂ h₂ => ?_) er))
    refine runC_bind (wpC_of (wpAny_mono h₂ (fun _ s₃ h₃ => ?_) er))
    have hy : ∀ v, yieldOut cenv v = yieldValue v := fun v => by simp only [yieldOut, hco, Bool.false_eq_true, if_false]
    refine runC_bind (wpC_of (wpAny_of_eq (List.forIn_nil (m := Sem)) ?_))
    simp only [hy, if_true]
    rw [Sem.bind_eq_wrap', Sem.bind_eq_wrap', Sem.wrap_wrap, Sem.wrap_wrap]
    refine runC_wrap (wpC_mono h₃ (fun y s₄ h₄ => ?_) er)
    refine runC_at (runC_yield fun p => h₄ _ _ _ fun Φ' s' hr => ?_)
    exact runC_again rfl hr
theorem genStart (hloop : RunC (model prog w) A (gLoop elt target iter scope pos it cenv) ((model prog w).den (gLoop elt target iter scope pos it cenv)) Φ s)
    (hself : ∀ {Q : Value → Shared → Prop} {E : Value → Shared → Prop}, Q it s → wpAny (model prog w) (A.over (gStart elt target iter scope pos it cenv) []) (pyIter it) Q E s) :
    RunC (model prog w) A (gStart elt target iter scope pos it cenv) ((model prog w).den (gStart elt target iter scope pos it cenv)) Φ s := by
  show RunC _ A _ ((compStart (gExp elt target iter scope pos) 0 it .none cenv).onRaise (leaving cenv)) Φ s
  unfold compStart
  rw [Sem.onRaise_eq_wrap]
  show RunC _ A _ ((ask >>= _).wrap _ _ _ _) Φ s
  refine runC_bind (wpC_of (wpAny_askSetting ?_))
  split
  · exact runC_again rfl hloop
  · refine runC_bind (wpC_of (wpAny_rule ?_))
    show RunC _ A _ ((standAt iter.pos >>= _).wrap _ _ _ _) Φ s
    exact runC_bind (wpC_standAt (runC_bind (wpC_of (hself (runC_again rfl hloop)))))
end
end Mine
end PartC18

section PartC19
open PySem PySem.W PyProof.Rows PySem.Calls PySem.Spec
open PySem.Builtin
set_option linter.all false
set_option maxRecDepth 100000
set_option maxHeartbeats 1000000
namespace Mine
section
variable {prog : Program} {w : World} {A : Around} {elt target iter : Expr} {scope : Scope} {pos : Pos} {cenv : Env} {d a I : Addr} {g n : Nat}
abbrev GAt (A : Around) (elt target iter : Expr) (scope : Scope) (pos : Pos) (I : Addr) (cenv : Env) : Around := A.in1.in1.over (gLoop elt target iter scope pos (.ref I) cenv) []
structure GenLoop (prog : Program) (w : World) (A : Around) (elt target iter : Expr) (scope : Scope) (pos : Pos) (cenv : Env) (d a I : Addr) (g n : Nat) (St : Nat → Heap → Prop) (ErrOk : Value → Heap → Prop) (Out : Value → Heap → Prop) (Done : Heap → Prop) : Prop where
  lim : ∀ i h, St i h → h.NoLimit
  gen : ∀ i h, St i h → h.IsGen a g
  self : ∀ s Q E, St 0 s.heap → Q (.ref I) s → wpAny (model prog w) (A.in1.in1.over (gStart elt target iter scope pos (.ref I) cenv) []) (pyIter (.ref I)) Q E s
  item : ∀ i, i < n → ∀ (s : Shared) (Qn Er : Value → Shared → Prop), St i s.heap →
    (∀ p o ks t yv m kvs h' tk', h'.get? p = some o → o.cls = .type "tuple" → o.data = .seq #[.str ks t, yv] m → kvs.length ≤ 100 → h'.DictOf (PySem.strKind prog w) d kvs → h'.IsGen a g →
      (∀ h'', h''.DictOf (PySem.strKind prog w) d (stored kvs ks yv) → Heap.SameBut d h' h'' → St (i + 1) h'') → Qn (.ref p) { s with heap := h', toks := tk' }) →
    (∀ e h' tk', ErrOk e h' → Er e { s with heap := h', toks := tk' }) →
    wpAny (model prog w) (GAt A elt target iter scope pos I cenv) (pyNext (.ref I)) (fun x s₁ => match x with
      | none => False
      | some v => wpAny (model prog w) (GAt A elt target iter scope pos I cenv) (letOwnedTupleGo target (.ref I) v) (fun _ s₂ => wpAny (model prog w) (GAt A elt target iter scope pos I cenv) (assign target cenv v) (fun _ s₃ =>
        wpC (model prog w) (GAt A elt target iter scope pos I cenv) (eval elt cenv) Qn Er s₃) Er s₂) Er s₁) Er s
  fin : ∀ (s : Shared) (Q : Option Value → Shared → Prop) (E : Value → Shared → Prop), St n s.heap → (∀ h' tk', h'.IsGen a g → (∀ h'', (∀ b o, h'.get? b = some o → h''.get? b = some o) → Done h'') → Q none { s with heap := h', toks := tk' }) →
    wpAny (model prog w) (GAt A elt target iter scope pos I cenv) (pyNext (.ref I)) Q E s
  err : ∀ e (s : Shared) (Q : Shared → Prop) (E : Value → Shared → Prop), ErrOk e s.heap → (∀ b h', e = .ref b → h'.IsGen a g → (∃ o, h'.get? b = some o ∧ o.cls = .type "ValueError") → Out e h' → Q { s with heap := h' }) →
    wpAny (model prog w) (GAt A elt target iter scope pos I cenv) (leaving cenv e) (fun _ s' => Q s') E s
def GReady (prog : Program) (w : World) (A : Around) (elt target iter : Expr) (scope : Scope) (pos : Pos) (I : Addr) (cenv : Env) (gs : GenState) : Prop :=
  (gs = .fresh (gStart elt target iter scope pos (.ref I) cenv)) ∨
  (∃ k l p, gs = .suspended k l (gLoop elt target iter scope pos (.ref I) cenv) p [] false ∧ ∀ Φ' s', RunC (model prog w) A.in1.in1 (gLoop elt target iter scope pos (.ref I) cenv) ((model prog w).den (gLoop elt target iter scope pos (.ref I) cenv)) Φ' s' →
    RunC (model prog w) A.in1.in1 (gLoop elt target iter scope pos (.ref I) cenv) (k (.send .none)) Φ' s')
theorem stop_value : isSubtype (.type "ValueError") (.type "StopIteration") = pure false := by
  first | exact isSubtype_value_stop | (simp only [isSubtype, mroOf_type]; kernel_rfl) | kernel_rfl
variable {St : Nat → Heap → Prop} {ErrOk : Value → Heap → Prop} {Out : Value → Heap → Prop} {Done : Heap → Prop} {R : Result → Shared → Prop}
theorem GenLoop.turns (G : GenLoop prog w A elt target iter scope pos cenv d a I g n St ErrOk Out Done) (hA : A.handled = none) (hroom : A.depth < recursionLimit) (hco : cenv.scope.isCoroutine = false) :
    ∀ (k i : Nat) (s : Shared) (gs : GenState), n - i = k → i ≤ n → St i s.heap → (gs = .fresh (gStart elt target iter scope pos (.ref I) cenv) → i = 0) → s.gens[g]? = some gs → GReady prog w A elt target iter scope pos I cenv gs →
      (∀ h' tk' G', GenOnly g s.gens G' → G'[g]? = some .finished → Done h' → R (.ok (.ret .none)) { s with heap := h', toks := tk', gens := G' }) →
      (∀ e h' tk' G', GenOnly g s.gens G' → G'[g]? = some .finished → Out e h' → R (.error e) { s with heap := h', toks := tk', gens := G' }) →
      codeC (model prog w) A (.builtin "dict.update.loop" ⟨[.ref d, .ref a, rawInt i, .none], []⟩) R s := by
  intro k
  induction k with
  | zero =>
    intro i s gs hk hi st h0 hgs rdy hR hE
    have : i = n := by omega
    subst this
    refine uloop hA (G.lim _ _ st) hroom (G.gen _ _ st) hgs ?_
    have turn : RunC (model prog w) A.in1.in1 (gLoop elt target iter scope pos (.ref I) cenv) ((model prog w).den (gLoop elt target iter scope pos (.ref I) cenv)) (fun e s₁ => s₁.heap.IsGen a g ∧ GenPost (fun e s' => R (.error e) s') g (LoopOn prog w A R d a i) e s₁) (s.setGen g .running) := by
      refine genTurn hco (G.fin _ _ _ st fun h' tk' hg' hd => ?_)
      refine ⟨hg', rfl, fun h'' hk'' => ?_⟩
      exact hR h'' tk' _ ((GenOnly.setGen s g .running).trans (GenOnly.setGen _ g .finished)) (setGen_self (gs := .running) (setGen_self hgs)) (hd h'' hk'')
    rcases rdy with rfl | ⟨k, l, p, rfl, hk'⟩
    · exact .inl ⟨_, rfl, genStart (s := s.setGen g .running) turn fun {Q E} q => G.self (s.setGen g .running) Q E (h0 rfl ▸ st) q⟩
    · exact .inr ⟨_, _, _, _, _, rfl, hk' _ _ turn⟩
  | succ k ih =>
    intro i s gs hk hi st h0 hgs rdy hR hE
    have hlt : i < n := by omega
    refine uloop hA (G.lim _ _ st) hroom (G.gen _ _ st) hgs ?_
    have turn : RunC (model prog w) A.in1.in1 (gLoop elt target iter scope pos (.ref I) cenv) ((model prog w).den (gLoop elt target iter scope pos (.ref I) cenv)) (fun e s₁ => s₁.heap.IsGen a g ∧ GenPost (fun e s' => R (.error e) s') g (LoopOn prog w A R d a i) e s₁) (s.setGen g .running) := by
      have ge : ∀ e (s' : Shared), (ErrOk e s'.heap ∧ ∃ h' tk', s' = { s.setGen g .running with heap := h', toks := tk' }) → GenErr prog w (GAt A elt target iter scope pos I cenv) cenv (fun e s₁ => s₁.heap.IsGen a g ∧ GenPost (fun e s' => R (.error e) s') g (LoopOn prog w A R d a i) e s₁) e s' := fun e s' ⟨he, h', tk', es⟩ => by
        refine G.err e s' _ _ he fun b h'' eb hg'' ⟨o, ho, hc⟩ hout => ⟨hg'', b, "ValueError", eb, ⟨⟨o, ho, hc⟩, stop_value⟩, ?_⟩
        subst es
        exact hE e h'' tk' _ ((GenOnly.setGen s g .running).trans (GenOnly.setGen _ g .finished)) (setGen_self (gs := .running) (setGen_self hgs)) hout
      refine genTurn hco (wpAny_mono (G.item i hlt (s.setGen g .running) (fun y s₄ => ∀ l k p, (∀ Φ' s', RunC (model prog w) A.in1.in1 (gLoop elt target iter scope pos (.ref I) cenv) ((model prog w).den (gLoop elt target iter scope pos (.ref I) cenv)) Φ' s' →
            RunC (model prog w) A.in1.in1 (gLoop elt target iter scope pos (.ref I) cenv) (k (.send .none)) Φ' s') → (fun e (s₁ : Shared) => s₁.heap.IsGen a g ∧ GenPost (fun e s' => R (.error e) s') g (LoopOn prog w A R d a i) e s₁) (.susp y false l k (gLoop elt target iter scope pos (.ref I) cenv) p []) s₄)
          (GenErr prog w (GAt A elt target iter scope pos I cenv) cenv (fun e s₁ => s₁.heap.IsGen a g ∧ GenPost (fun e s' => R (.error e) s') g (LoopOn prog w A R d a i) e s₁)) st ?_ fun e h' tk' he => ge e _ ⟨he, h', tk', rfl⟩) (fun x s₁ h₁ => ?_) fun _ _ z => z)
      · intro p o ks t yv m kvs h' tk' ho hc hd hz hm hg' hnext l k p' hkk
        refine ⟨hg', rfl, rfl, ?_⟩
        refine ⟨p, o, .str ks t, ks, t, yv, m, kvs, rfl, ho, hc, hd, rfl, hz, hm, fun h'' tk'' hm'' hs'' => ?_⟩
        have e1 : GenOnly g s.gens ((({ s.setGen g .running with heap := h', toks := tk' } : Shared).setGen g (.suspended k l (gLoop elt target iter scope pos (.ref I) cenv) p' [] false)).gens) := (GenOnly.setGen s g .running).trans (GenOnly.setGen _ g _)
        refine (show codeC (model prog w) A (.builtin "dict.update.loop" ⟨[.ref d, .ref a, rawInt ((i + 1 : Nat) : Int), .none], []⟩) R _ from ih (i + 1) _ _ (by omega) hlt (hnext h'' hm'' hs'') (fun z => by cases z) (setGen_self (gs := .running) (setGen_self hgs)) (.inr ⟨k, l, p', rfl, hkk⟩) (fun h3 tk3 G3 g1 g2 hd3 => hR h3 tk3 G3 (e1.trans g1) g2 hd3) fun e h3 tk3 G3 g1 g2 he3 => hE e h3 tk3 G3 (e1.trans g1) g2 he3)
      · cases x with
        | none => exact h₁.elim
        | some v => exact h₁
    rcases rdy with rfl | ⟨k, l, p, rfl, hk'⟩
    · exact .inl ⟨_, rfl, genStart (s := s.setGen g .running) turn fun {Q E} q => G.self (s.setGen g .running) Q E (h0 rfl ▸ st) q⟩
    · exact .inr ⟨_, _, _, _, _, rfl, hk' _ _ turn⟩
end
end Mine
end PartC19

section PartC20
open PySem PySem.W PyProof.Rows PySem.Calls PySem.Spec
open PySem.Builtin
set_option linter.all false
set_option maxRecDepth 100000
set_option maxHeartbeats 1000000
namespace Mine
def Grew (ps ps' : Array Value) : Prop := TriplesOk ps'.toList ∧ ∃ more, ps' = ps ++ more
theorem Grew.trans {a b c : Array Value} (x : Grew a b) (y : Grew b c) : Grew a c := ⟨y.1, by
  obtain ⟨m1, rfl⟩ := x.2
  obtain ⟨m2, rfl⟩ := y.2
  exact ⟨m1 ++ m2, Array.append_assoc ..⟩⟩
section
variable {M : Model} {A : Around} {E : Value → Shared → Prop} {s : Shared}
theorem code_step {env : Env} {c P : Addr} {ps : Array Value} {pos : Pos} {q : PySem.Str} {scope : Scope} {Q : Value → Shared → Prop} (hc : env.code = .ref c) (hd : CodeHd s.heap c P) (hP : s.heap.get? P = some (tabObj ps)) (ht : TriplesOk ps.toList)
    (hQ : ∀ code ps' h' tk', Grew ps ps' → h'.get? P = some (tabObj ps') → Heap.ExtBut P s.heap h' → s.heap.objs.size ≤ h'.objs.size → Q code { s with heap := h', toks := tk' }) : wpAny M A (genexprCode env pos q scope) Q E s := by
  cases hf : codeAmong pos ps.toList with
  | some cv => exact wpAny_genexprCode_hit hc (hd.code hP ht) hf (hQ cv ps s.heap s.toks ⟨ht, #[], by simp⟩ hP (Heap.ExtBut.refl _ _) (Nat.le_refl _))
  | none =>
    refine wpAny_genexprCodeX hc (hd.code hP ht) (hd.tab hP) hf fun c' h' tk hx hge hlt hcode _ htab _ => ?_
    exact hQ _ _ h' tk ⟨by obtain ⟨_, _, _, _, _, _, _, _, _, _, _, _, _, _, _, _, _, e, ed, htr, _⟩ := hcode; exact htr, _, rfl⟩ htab.2 hx (Nat.le_trans hge (Nat.le_of_lt hlt))
end
abbrev iterO (dd : Addr) (i n ep : Nat) (ok ov : Value) : Obj := { cls := .type "dict_itemiterator", dict := none, data := .fields #[.none, .bool false, .ref dd, .int i 0, .int n 0, .int ep 0, ok, ov], slots := #[] }
abbrev genO (g : Nat) (x y : Value) : Obj := { cls := .type "generator", data := .fields #[.int g 0, x, y] }
theorem genO_is {h : Heap} {a : Addr} {g : Nat} {x y : Value} (e : h.get? a = some (genO g x y)) : h.IsGen a g := ⟨_, _, _, e, rfl, rfl, rfl⟩
structure GenMade (K : Frag) (p : Program) (loose : List PySem.Str) (mean : ExcName → Option Value) (mg mb : PySem.Str → Option Value) (A : Around) (base g : Heap) (env : Env) (outer : List Env) (L P : Addr) (m : PySem.Str → Option Value) (ps ps' : Array Value) (rest : List (Addr × Obj))
    (h1 h' g2 : Heap) (C I a dd : Addr) (gi n ep : Nat) : Prop where
  grew : Grew ps ps'
  F1 : Fr g L h1 m
  N1 : News g L h1 ((P, tabObj ps) :: rest)
  BG : Below A base (env :: outer) g2
  FG : Fr g L g2 m
  F2 : Fr g2 C h' (fun y => if y = PySem.Str.ofString ".0" then some (.ref I) else none)
  N2 : ∃ x y, News g2 C h' ((a, genO gi x y) :: (I, iterO dd 0 n ep .none .none) :: (P, tabObj ps') :: rest)
  X2 : K.In g2
  T2 : Top p loose mean mg mb g2
  D2 : KtsDicts (fr (env :: outer)) g2
  back : ∀ g2' h_end m'', KtsTurn (fr (env :: outer)) g2 g2' → Fr g2' C h_end m'' → News g2' C h_end rest → SlotR (L :: fr outer) (hideAll h1 [P]) h_end
  fresh : h1.get? C = none ∧ h1.get? a = none ∧ h1.get? I = none
section
variable {prog : Program} {w : World} {A : Around} {E : Value → Shared → Prop} {s : Shared} {K : Frag} {p : Program} {loose : List PySem.Str} {mean : ExcName → Option Value} {mg mb : PySem.Str → Option Value} {A₀ : Around} {base g : Heap} {env : Env} {outer : List Env} {L P c dd : Addr} {m : PySem.Str → Option Value} {ps : Array Value} {rest : List (Addr × Obj)} {od : Obj}
  {κ : Type} [DecidableEq κ] {knd : PySem.KeyKind prog w κ} {kvs : List (κ × Value)} {elt target iter : Expr} {scope : Scope} {pos : Pos} {Q : Value → Shared → Prop}
theorem gen_items (hA : A.frames = some (env :: outer)) (hf : env.frame = some L) (hke : env.scope.kind = .function) (hh : A.handled = none) (hroom : A.depth < recursionLimit)
    (_F : Fr g L s.heap m) (B : Below A₀ base outer g) (X : K.In g) (T : Top p loose mean mg mb g) (D : KtsDicts (fr outer) g)
    (hcode : env.code = .ref c) (HC : CodeHd g c P) (hps : TriplesOk ps.toList) (hgl : env.globals = mainGlobals)
    (hmd : (dd, od) ∈ rest) (hcl : ∀ q ∈ rest, q.2.cls ≠ .none) (hd : od.IsDictOf knd kvs) (hsz : kvs.length ≤ sizeLine)
    (hco : scope.isCoroutine = false) (hclos : closureFor scope env = pure []) (hcell : ∀ y ∈ scope.names, y.2 ≠ .cell) (h0 : scope.names.lookup (".0" : PySem.Str) = some NameKind.local) (hkind : scope.kind = .function)
    (hs : ∀ x, genFold iter env x = pure x)
    (hiter : ∀ Q' : Value → Shared → Prop, (∀ vw h1 tk1, h1.IsItemsView vw dd → Fr g L h1 m → News g L h1 ((P, tabObj ps) :: rest) → Q' (.ref vw) { s with heap := h1, toks := tk1 }) → wpAny (model prog w) A (eval iter env) Q' E s)
    (hQ : ∀ code ps' h1 h' g2 C I a ep tk', KdkAt knd od kvs ep → GenMade K p loose mean mg mb A base g env outer L P m ps ps' rest h1 h' g2 C I a dd s.gens.size kvs.length ep →
      Q (.ref a) { s with gens := s.gens.push (.fresh (gStart elt target iter scope pos (.ref I) (genEnv scope [] C code builtinsNs env))), toks := tk', heap := h' }) :
    wpAny (model prog w) A (eval (.GeneratorExp elt [⟨target, iter, [], 0⟩] scope pos) env) Q E s := by
  refine wpAny_GeneratorExp_make hco hclos hcell h0 hkind hroom (hiter _ fun vw h1 tk1 hv F1 N1 => ?_) hs
  obtain ⟨ep, hat⟩ := KdkAt.of hd
  refine wpAny_pyIter_items hv (hat.dictAt (N1 _ (.tail _ hmd)).1) ?_
  have Fp : Fr g L (h1.push (iterO dd 0 kvs.length ep .none .none)) m := F1.push _
  refine ⟨T.nolimit.keeps Fp.keep, ?_⟩
  have hP1 : h1.get? P = some (tabObj ps) := (N1 _ (.head _)).1
  refine code_step hcode (HC.keeps Fp.keep) (Heap.get?_push_of_some _ hP1) hps fun code ps' h3 tk3 gr hP3 hx hsz3 => ?_
  have hPn : g.get? P = none := (N1 _ (.head _)).2.2
  have keep3 : ∀ b o, g.get? b = some o → h3.get? b = some o := fun b o e => hx b o (fun z => by rw [z, hPn] at e; cases e) (Fp.keep b o e)
  have LP : L ≠ P := fun z => (N1 _ (.head _)).2.1 z.symm
  obtain ⟨bm, ob, M⟩ := bmod_of_top T
  have M3 := M.keeps keep3
  rw [hgl]
  refine wpAny_builtinsFor M3.ns M3.name M3.ne M3.obj M3.cls M3.dict M3.data fun h' hn' hs' => ?_
  have F3 : Fr g L h3 m := ⟨Fp.ns.at' fun o e => hx L o LP e, keep3, F1.above⟩
  have hI : h3.get? h1.objs.size = some (iterO dd 0 kvs.length ep .none .none) := hx _ _ (Nat.ne_of_gt (Heap.lt_size hP1)) (Heap.get?_push_size _ rfl)
  have IL : h1.objs.size ≠ L := Nat.ne_of_gt F1.ns.lt
  have In : g.get? h1.objs.size = none := by
    cases q : g.get? h1.objs.size with
    | none => rfl
    | some o => exact absurd (Heap.lt_size (F1.keep _ _ q)) (Nat.lt_irrefl _)
  have old3 : ∀ b o, h1.get? b = some o → b ≠ P → h3.get? b = some o := fun b o e nb => hx b o nb (Heap.get?_push_of_some _ e)
  have rP : ∀ q ∈ rest, q.1 ≠ P := fun q hq z => by
    have e := (N1 q (.tail _ hq)).1
    rw [z, hP1] at e
    exact hcl q hq (by rw [← Option.some.inj e])
  have N3 : News g L h3 ((h1.objs.size, iterO dd 0 kvs.length ep .none .none) :: (P, tabObj ps') :: rest) := fun q hq => by
    rcases List.mem_cons.mp hq with rfl | hq
    · exact ⟨hI, IL, In⟩
    · rcases List.mem_cons.mp hq with rfl | hq
      · exact ⟨hP3, Ne.symm LP, hPn⟩
      · exact ⟨old3 _ _ (N1 q (.tail _ hq)).1 (rP q hq), (N1 q (.tail _ hq)).2⟩
  obtain ⟨FG, BG, st, _⟩ := groundX (s := { s with heap := h3, toks := tk3 }) (R := fun _ _ => True) B F3 N3 hA hf hke
  dsimp only at FG BG st
  generalize hg2 : hideAll h3 (((h1.objs.size, iterO dd 0 kvs.length ep .none .none) :: (P, tabObj ps') :: rest).map (·.1)) = g2 at FG BG st
  have of2 : ∀ b o, g2.get? b = some o → h3.get? b = some o := fun b o e => of_hideAll _ (hg2 ▸ e)
  have sz2 : g2.objs.size = h3.objs.size := by rw [← hg2, hideAll_size]
  have hz : h'.objs.size = h3.objs.size + 1 := by rw [hs'.1, Heap.size_push]
  have keep' : ∀ b o, h3.get? b = some o → h'.get? b = some o := fun b o e => hs'.extBut b o (Nat.ne_of_lt (Heap.lt_size e)) (Heap.get?_push_of_some _ e)
  have no2 : ∀ b, h3.objs.size ≤ b → g2.get? b = none := fun b hb => by
    cases q : g2.get? b with
    | none => rfl
    | some o => exact absurd (Heap.lt_size (of2 _ _ q)) (Nat.not_lt.mpr hb)
  have no1 : ∀ b, h3.objs.size ≤ b → h1.get? b = none := fun b hb => by
    cases q : h1.get? b with
    | none => rfl
    | some o => exact absurd (Nat.lt_of_lt_of_le (Heap.lt_size q) (Nat.le_trans (by rw [Heap.size_push]; exact Nat.le_succ _) (Nat.le_trans hsz3 hb))) (Nat.lt_irrefl _)
  refine hQ code ps' h1 _ g2 h3.objs.size h1.objs.size h'.objs.size ep _ hat ⟨gr, F1, N1, BG, FG, ⟨hn'.push _, fun b o e => Heap.get?_push_of_some _ (keep' b o (of2 b o e)), Nat.le_of_eq sz2⟩, ⟨.str "<genexpr>" (tk3 + 1), .str (env.qual ++ "<genexpr>") (tk3 + 1 + 1), fun q hq => ?_⟩, X.keeps st, T.keeps st, fun b hb => ?_, fun g2' hE m'' T' F' N' b o e => ?_, no1 _ (Nat.le_refl _), no1 _ (by omega), ?_⟩
  · rcases List.mem_cons.mp hq with rfl | hq
    · exact ⟨Heap.get?_push_size _ rfl, by rw [hz]; exact Nat.succ_ne_self _, no2 _ (by omega)⟩
    · refine ⟨Heap.get?_push_of_some _ (keep' _ _ (N3 q hq).1), Nat.ne_of_lt (Heap.lt_size (N3 q hq).1), ?_⟩
      rw [← hg2]; exact hideAll_none _ (List.mem_map_of_mem hq)
  · rw [fr_cons hf] at hb
    rcases List.mem_cons.mp hb with rfl | hb
    · obtain ⟨oL, es, ep', hL, hLd, _⟩ := FG.ns
      exact ⟨oL, es, ep', hL, hLd⟩
    · obtain ⟨o, es, n, ho', hd'⟩ := D b hb
      exact ⟨o, es, n, st b o ho', hd'⟩
  · have e1 := of_hideAll _ e
    have nb : b ≠ P := fun z => by rw [hideAll_none _ (by rw [z]; exact .head _)] at e; cases e
    by_cases mem : b ∈ rest.map (·.1)
    · obtain ⟨q, hq, rfl⟩ := List.mem_map.mp mem
      have e2 := (N1 q (.tail _ hq)).1
      rw [e1] at e2; cases e2
      exact ⟨fun _ => (N' q hq).1, fun _ => ⟨q.2.slots, (N' q hq).1⟩⟩
    · have e2 : g2.get? b = some o := by
        rw [← hg2]
        refine hideAll_get _ (old3 b o e1 nb) fun z => ?_
        rcases List.mem_cons.mp z with z | z
        · exact absurd (Heap.lt_size e1) (by rw [show b = h1.objs.size from z]; exact Nat.lt_irrefl _)
        · rcases List.mem_cons.mp z with z | z
          · exact nb z
          · exact mem z
      rw [fr_cons hf] at T'
      exact ⟨fun n => F'.keep _ _ (T'.other b o e2 n), fun mm => by
        obtain ⟨sl, hs⟩ := T'.frame b o e2 mm
        exact ⟨sl, F'.keep _ _ hs⟩⟩
  · exact Heap.get?_none_of_le (Nat.le_refl _)
end
end Mine
end PartC20

section PartC21
open PySem PySem.W PyProof.Rows PySem.Calls PySem.Spec
open PySem.Builtin
set_option linter.all false
set_option maxRecDepth 100000
set_option maxHeartbeats 1000000
namespace Mine
section
variable {M : Model} {A : Around} {E : Value → Shared → Prop} {s : Shared} {env : Env} {K : Frag} {mg mb : PySem.Str → Option Value} {p : Program} {loose : List PySem.Str} {x : PySem.Str} {pos : Pos} {v : Value} {Q : Value → Shared → Prop} {h₀ : Heap} {L : Addr} {m : PySem.Str → Option Value}
theorem nameE_L (F : Fr h₀ L s.heap m) (hv : m x = some v) (h : Q v s) (he : env.locals = L) (hk : env.scope.kind = .function) (hl : env.kindOf x = some .local) (hd : (x == ("__debug__" : PySem.Str)) = false := by decide) :
    wpAny M A (eval (.Name x pos) env) Q E s := wpAny_Name (wpAny_loadName_local hk hl (he ▸ F.ns) hv h) hd
theorem nameE_B (F : Fr h₀ L s.heap m) (X : K.In h₀) (T : TopRead p loose mg mb h₀) (e : nsIn K mainGlobals x = some none) (hv : bootBuiltins x = some v) (hn : x ≠ "__name__") (h : Q v s)
    (hg : env.globals = mainGlobals) (hb : env.builtins = builtinsNs) (hk : env.scope.kind = .function) (hx : env.kindOf x = some .globalImplicit) (hd : (x == ("__debug__" : PySem.Str)) = false := by decide) :
    wpAny M A (eval (.Name x pos) env) Q E s :=
  Name_function_global hk hx (loadGlobal_builtin (env := env) (by rw [hg]; exact T.g.keeps F.keep) (mg_none_of X T.g e) (by rw [hb]; exact T.b.keeps F.keep) ((T.builtins x hn).trans hv) h) hd
theorem spliced_nil {pos : Pos} {Q : List Value → Shared → Prop} (h : Q [] s) : wpAny M A (spliced (backTo pos (starEach [] env))) Q E s := wpAny_of_eq (a := []) (by first | rfl | (simp only [starEach, backTo, spliced]) | (simp [starEach, backTo, spliced]; rfl)) h
end
end Mine
end PartC21

local macro_rules | `(tactic| walk_at "no key") => `(tactic| fail)
local macro_rules | `(tactic| walk_at "no key") => `(tactic| fail)
local macro_rules | `(tactic| walk_at "no key") => `(tactic| fail)
section PartE9
open PySem PySem.W PyProof.Rows PySem.Calls PySem.Spec
set_option linter.all false
namespace Mine
section
variable {pt : Program} {w : World} {mean : ExcName → Option Value} {mg mb : Str → Option Value} {dp un : Nat} {gd : Option (List Code)} {env : Env} {outer : List Env} {A₀ : Around} {base h₀ : Heap} {L : Addr} {m : Str → Option Value} {news : List (Addr × Obj)} {s : Shared} {Q E : Value → Shared → Prop} {loose : List Str}
local macro_rules | `(tactic| ke_room) => `(tactic| ktr_units)
local macro_rules | `(tactic| k_units) => `(tactic| ktr_units)
local macro_rules | `(tactic| k_room) => `(tactic| ktr_room)
local macro_rules | `(tactic| walk_at "StrBack") => `(tactic| (k_dflt (dsimp only [StrBack]); (try k_fold)))
local macro_rules | `(tactic| walk_at "CmpBack") => `(tactic| (k_dflt (dsimp only [CmpBack]); (try k_fold)))
abbrev eltE (p1 p2 p3 p4 p6 p8 : Pos) (n : Nat) : Expr := .Tuple [.Call (.Name (Str.ofString "str") p1) [.Name (Str.ofString "k") p2] [] p3, .Call (.Attribute (.Name (Str.ofString "ReplicationFactor") p4) (Str.ofString "create") ⟨116, 58, 116, 82⟩) [.Name (Str.ofString "v") p6] [] ⟨116, 58, 116, 85⟩] n p8
set_option maxRecDepth 100000 in
set_option maxHeartbeats 1000000 in
theorem nts_elt
  {x : Str} {t t0 : Tok} {ki : Int} {p1 p2 p3 p4 p6 p8 : Pos} {n : Nat}
  (B : Below A₀ base outer h₀) (F : Fr h₀ L s.heap m) (X : (Mine.hd.heap_39 w.params).In h₀) (N : News h₀ L s.heap news) (T : Top pt loose mean mg mb h₀) (XB : (Mine.hd.heap_39 w.params).In base) (TB : Top pt loose mean mg mb base) (D : KtsDicts (fr outer) h₀) (hk : env.scope.kind = .function) (hf : env.frame = some L) (hd : dp + 4 < recursionLimit) (hu : un + 100 < cLine) (hgd : gd = some [])
  (hl : env.locals = L) (hg : env.globals = mainGlobals) (hb : env.builtins = builtinsNs) (k1 : env.kindOf (Str.ofString "k") = some .local) (k2 : env.kindOf (Str.ofString "v") = some .local) (k3 : env.kindOf (Str.ofString "str") = some .globalImplicit) (k4 : env.kindOf (Str.ofString "ReplicationFactor") = some .globalImplicit)
  (hmk : m (Str.ofString "k") = some (.int ki t0)) (hmv : m (Str.ofString "v") = some (.str x t)) (hx : Small x) (hkind : Kind x) (hki0 : 0 ≤ ki) (hki9 : ki ≤ 9)
  (hret : ∀ i oo xx fd p tt q1 q2 q3 t1 t2 t3 h' tk', factor x = some (i, oo) → (-1000 ≤ i ∧ i ≤ 1000 ∧ ∀ b, oo = some b → -1000 ≤ b ∧ b ≤ 1000) → SlotR (L :: fr outer) s.heap h' → Fresh s.heap h' [(p, { cls := .type "tuple", data := .seq #[.str (Str.ofString (toString ki)) tt, .ref xx] }), (xx, instObj 176 fd), (fd, rfD w.params i oo q1 q2 q3 t1 t2 t3)] → Q (.ref p) { s with heap := h', toks := tk' })
  (herr : factor x = none → ∀ e ctx h' tk', Up (hideAll s.heap (L :: fr outer)) (env :: outer) e (.type "ValueError") ctx (some .none) h' → SlotR (L :: fr outer) s.heap h' → E (.ref e) { s with heap := h', toks := tk' }) :
  wpC (model PySem.Challenge.rw_bq5007_01.row.prog w) (gTop dp un gd env outer) (eval (eltE p1 p2 p3 p4 p6 p8 n) env) Q E s := by
  subst hgd
  w_strict (
    w_top off
    refine C_tuple2 (C_call_name ?_)
    refine nameE_B F X (topRead_of T) (by k_is) (v := .type "str") (by boot_fast) (by decide) ?_ hg hb hk k3
    refine Calls.spliced_cons (nameE_L F hmk (spliced_nil ⟨keepsOk_type, ?_⟩) hl hk k1)
    refine wpC_of ?_
    show wpAny _ _ (call (Value.type "str") [Value.int ki t0]) _ _ _
    k_steps
    refine C_call_attr (pl := _) ?_
    refine nameG_K F X (topRead_of T) (v := .ref 176) (by k_is) ?_ hg hk k4 (by decide)
    refine' method_of_cls ?k1 ?k2 ?k3 ?_
    case k1 => k_asm
    case k2 => k_asm
    case k3 => k_is
    k_whole
    refine' cls_sm ?k1 ?k2 ?k3 ?k4 ?k5 ?k6 ?k7 ?_
    case k1 => k_asm
    case k2 => k_asm
    case k3 => k_is
    case k4 => k_is
    case k5 => k_is
    case k6 => k_is
    case k7 => k_handed
    k_whole
    refine Calls.spliced_cons (nameE_L F hmv (spliced_nil ⟨keepsOk_K (X.keeps F.keep) (by k_is), ?_⟩) hl hk k2)
    show wpC _ _ (call (Value.ref 156) [Value.str x t]) _ _ _
    refine' create_C B F X N T XB TB D hk hf ?hd ?hu rfl hx hkind ?_ ?_
    case hd => exact hd
    case hu => exact hu
    · intro i oo xx fd q1 q2 q3 t1 t2 t3 h3 tk3 hfac hbd S3 n3 n4 e3 e4
      dsimp only
      refine wpC_of (wpAny_newTuple ?_)
      refine hret i oo xx fd _ _ q1 q2 q3 t1 t2 t3 _ _ hfac hbd (S3.trans (.keeps fun b o z => Heap.get?_push_of_some _ z)) (Fresh.cons (S3.back (Heap.get?_none_of_le (Nat.le_refl _))) (Heap.get?_push_size _ rfl) (Fresh.cons n3 (Heap.get?_push_of_some _ e3) (Fresh.cons n4 (Heap.get?_push_of_some _ e4) .nil)))
    · intro hfac e ctx h3 tk3 U3 S3
      exact herr hfac e ctx h3 _ U3 S3)
end
end Mine
end PartE9

section PartE10
open PySem PySem.W PyProof.Rows PySem.Calls PySem.Spec
set_option linter.all false
namespace Mine
section
variable {pt : Program} {w : World} {mean : ExcName → Option Value} {mg mb : Str → Option Value} {dp un : Nat} {gd : Option (List Code)} {env : Env} {outer : List Env} {A₀ : Around} {base h₀ : Heap} {L : Addr} {m : Str → Option Value} {news : List (Addr × Obj)} {s : Shared} {Q E : Value → Shared → Prop} {loose : List Str}
local macro_rules | `(tactic| ke_room) => `(tactic| ktr_units)
local macro_rules | `(tactic| k_units) => `(tactic| ktr_units)
local macro_rules | `(tactic| k_room) => `(tactic| ktr_room)
local macro_rules | `(tactic| walk_at "StrBack") => `(tactic| (k_dflt (dsimp only [StrBack]); (try k_fold)))
local macro_rules | `(tactic| walk_at "CmpBack") => `(tactic| (k_dflt (dsimp only [CmpBack]); (try k_fold)))
structure RfRec where
  xx : Addr
  fd : Addr
  i : Int
  oo : Option Int
  q1 : Tok
  q2 : Tok
  q3 : Tok
  t1 : Tok
  t2 : Tok
  t3 : Tok
def rfNews (P : Params) (r : RfRec) : List (Addr × Obj) := [(r.xx, instObj 176 r.fd), (r.fd, rfD P r.i r.oo r.q1 r.q2 r.q3 r.t1 r.t2 r.t3)]
def rfFit (x : Str) (r : RfRec) : Prop := factor x = some (r.i, r.oo) ∧ (-1000 ≤ r.i ∧ r.i ≤ 1000 ∧ ∀ b, r.oo = some b → -1000 ≤ b ∧ b ≤ 1000)
def rfKvs (ks : List Int) (rs : List RfRec) : List (Str × Value) := (ks.zip rs).map fun p => (Str.ofString (toString p.1), .ref p.2.xx)
structure NSt (w : World) (A : Around) (base : Heap) (env : Env) (outer : List Env) (g2 : Heap) (C I a d dd : Addr) (gi n ep : Nat) (ps' : Array Value) (rest : List (Addr × Obj)) (xs : List Str) (ks : List Int) (i : Nat) (h : Heap) : Prop where
  st : ∃ (rs : List RfRec) (g2' : Heap) (m'' : Str → Option Value) (ok ov x y : Value) (dO : Obj), rs.length = i ∧ (∀ (j : Nat) (r : RfRec), rs[j]? = some r → ∃ xj : Str, xs[j]? = some xj ∧ rfFit xj r) ∧
    KtsTurn (fr (env :: outer)) g2 g2' ∧ Below A base (env :: outer) g2' ∧ KtsDicts (fr (env :: outer)) g2' ∧ Fr g2' C h m'' ∧
    News g2' C h ((d, dO) :: (I, iterO dd i n ep ok ov) :: (a, genO gi x y) :: (237, tabObj ps') :: (rs.flatMap (rfNews w.params) ++ rest)) ∧
    dO.IsDictOf (PySem.strKind PySem.Challenge.rw_bq5007_01.row.prog w) (rfKvs ks rs) ∧ (∀ q ∈ (a, genO gi x y) :: (237, tabObj ps') :: (rs.flatMap (rfNews w.params) ++ rest), q.1 ≠ I ∧ q.1 ≠ d) ∧ d ≠ I
set_option maxRecDepth 100000 in
set_option maxHeartbeats 1000000 in
theorem nts_item {A₁ : Around} {g2 : Heap} {C I ad d dd : Addr} {gi ep i : Nat} {ps' : Array Value} {rest : List (Addr × Obj)} {xs : List Str} {ks : List Int} {kv : List (Int × Value)} {od : Obj} {sc : Scope} {code : Value} {p1 p2 p3 p4 p6 p8 pa pb ptt : Pos} {n nk : Nat} {ki ui} {x : Str} {Qn Er : Value → Shared → Prop}
  (X : (Mine.hd.heap_39 w.params).In g2) (T : Top pt loose mean mg mb g2) (XB : (Mine.hd.heap_39 w.params).In base) (TB : Top pt loose mean mg mb base)
  (hk : sc.kind = .function) (hd : dp + 4 < recursionLimit) (hu : un + 100 < cLine) (hg : env.globals = mainGlobals)
  (k1 : (genEnv sc [] C code builtinsNs env).kindOf (Str.ofString "k") = some .local) (k2 : (genEnv sc [] C code builtinsNs env).kindOf (Str.ofString "v") = some .local) (k3 : (genEnv sc [] C code builtinsNs env).kindOf (Str.ofString "str") = some .globalImplicit) (k4 : (genEnv sc [] C code builtinsNs env).kindOf (Str.ofString "ReplicationFactor") = some .globalImplicit)
  (hmd : (dd, od) ∈ rest) (hat : KdkAt (PySem.intKind PySem.Challenge.rw_bq5007_01.row.prog w) od kv ep) (hxi : kv[i]? = some (ki, .str x ui)) (hxs : xs[i]? = some x) (hks : ks[i]? = some ki) (hki0 : 0 ≤ ki) (hki9 : ki ≤ 9) (hx : Small x) (hkind : Kind x)
  (hn : ∀ p o' ks' t' yv kvs' h' tk' , h'.get? p = some o' → o'.cls = .type "tuple" → o'.data = .seq #[.str ks' t', yv] → kvs'.length ≤ 100 → h'.DictOf (PySem.strKind PySem.Challenge.rw_bq5007_01.row.prog w) d kvs' → h'.IsGen ad gi →
      (∀ h'', h''.DictOf (PySem.strKind PySem.Challenge.rw_bq5007_01.row.prog w) d (stored kvs' ks' yv) → Heap.SameBut d h' h'' → NSt w A₁ base env outer g2 C I ad d dd gi kv.length ep ps' rest xs ks (i + 1) h'') → Qn (.ref p) { s with heap := h', toks := tk' })
  (he : factor x = none → ∀ e ctx g2' h5 m5 y1 y2 h' tk', KtsTurn (fr (env :: outer)) g2 g2' → Below A₁ base (env :: outer) g2' → KtsDicts (fr (env :: outer)) g2' → News g2' C h5 ((ad, genO gi y1 y2) :: (237, tabObj ps') :: rest) → Fr g2' C h5 m5 → Up (hideAll h5 (C :: fr (env :: outer))) (genEnv sc [] C code builtinsNs env :: env :: outer) e (.type "ValueError") ctx (some .none) h' → SlotR (C :: fr (env :: outer)) h5 h' → Er (.ref e) { s with heap := h', toks := tk' })
  (hi : i ≤ 100) (hst : ∀ rs r, rs.length = i → stored (rfKvs ks rs) (Str.ofString (toString ki)) (.ref r.xx) = rfKvs ks (rs ++ [r]))
  (S : NSt w A₁ base env outer g2 C I ad d dd gi kv.length ep ps' rest xs ks i s.heap) :
  wpAny (model PySem.Challenge.rw_bq5007_01.row.prog w) (gTop dp un (some []) (genEnv sc [] C code builtinsNs env) (env :: outer)) (pyNext (.ref I)) (fun x s₁ => match x with
      | none => False
      | some v => wpAny (model PySem.Challenge.rw_bq5007_01.row.prog w) (gTop dp un (some []) (genEnv sc [] C code builtinsNs env) (env :: outer)) (letOwnedTupleGo (.Tuple [.Name (Str.ofString "k") pa, .Name (Str.ofString "v") pb] nk ptt) (.ref I) v) (fun _ s₂ => wpAny (model PySem.Challenge.rw_bq5007_01.row.prog w) (gTop dp un (some []) (genEnv sc [] C code builtinsNs env) (env :: outer)) (assign (.Tuple [.Name (Str.ofString "k") pa, .Name (Str.ofString "v") pb] nk ptt) (genEnv sc [] C code builtinsNs env) v) (fun _ s₃ =>
        wpC (model PySem.Challenge.rw_bq5007_01.row.prog w) (gTop dp un (some []) (genEnv sc [] C code builtinsNs env) (env :: outer)) (eval (eltE p1 p2 p3 p4 p6 p8 n) (genEnv sc [] C code builtinsNs env)) Qn Er s₃) Er s₂) Er s₁) Er s := by
  obtain ⟨rs, g2', m'', ok, ov, y1, y2, dO, hlen, hrs, KT, BG, DG, FG, NG, hdO, hne, hdI⟩ := S.st
  have hI := (NG _ (.tail _ (.head _))).1
  have hod := (NG (dd, od) (.tail _ (.tail _ (.tail _ (.tail _ (List.mem_append_right _ hmd)))))).1
  refine wpAny_pyNext_items_item (knd := PySem.intKind _ _) hI (hat.dictAt hod) hxi fun key h1 hkey hout ht hsz hkp => ?_
  obtain ⟨kt, rfl⟩ := Value.isInt_shape hkey
  dsimp only
  refine wpAny_letOwnedTupleGo_items hout fun h2 hit2 hs2 => ?_
  have eI : I ≠ C := (NG _ (.tail _ (.head _))).2.1
  have tI : s.heap.objs.size ≠ I := Nat.ne_of_gt (Heap.lt_size hI)
  refine wpAny_assign_Tuple (items := #[.int ki kt, .str x ui]) rfl ⟨_, hs2.extBut _ _ tI ht, rfl, _, rfl⟩ rfl rfl fun h3 hx3 => ?_
  show wpAny _ _ (do holding [Value.str x ui] (assign (.Name (Str.ofString "k") pa) (genEnv sc [] C code builtinsNs env) (.int ki kt)); holding [] (assign (.Name (Str.ofString "v") pb) (genEnv sc [] C code builtinsNs env) (.str x ui)); pure ()) _ _ _
  have up3 : ∀ b o, b ≠ I → s.heap.get? b = some o → h3.get? b = some o := fun b o nb e => hx3 b o (Nat.ne_of_lt (Heap.lt_size (hs2.extBut b o nb (hkp b o nb e)))) (hs2.extBut b o nb (hkp b o nb e))
  refine wpAny_bind (wpAny_holding (wpAny_assign_Name (wpAny_storeName_local k1 (FG.ns.at' fun o e => up3 _ o (Ne.symm eI) e) (fun h4 hn4 hs4 => ?_) (by simp [genEnv, hk]))))
  refine wpAny_bind (wpAny_holding (wpAny_assign_Name (wpAny_storeName_local k2 hn4 (fun h5 hn5 hs5 => wpAny_pure ?_) (by simp [genEnv, hk]))))
  replace hs4 : Heap.SameBut C h3 h4 := hs4
  replace hs5 : Heap.SameBut C h4 h5 := hs5
  replace hn5 : h5.Ns C _ := hn5
  have up5 : ∀ b o, b ≠ I → b ≠ C → s.heap.get? b = some o → h5.get? b = some o := fun b o nb nc e => hs5.extBut b o nc (hs4.extBut b o nc (up3 b o nb e))
  have iT : I ≠ h2.objs.size := Nat.ne_of_lt (Heap.lt_size hit2)
  have hI5 : h5.get? I = some (iterO dd (i + 1) kv.length ep (.int ki kt) (.str x ui)) := hs5.extBut I _ eI (hs4.extBut I _ eI (hx3 I _ iT hit2))
  have In : g2'.get? I = none := (NG _ (.tail _ (.head _))).2.2
  have F5 : Fr g2' C h5 _ := ⟨hn5, fun b o e => up5 b o (fun z => by rw [z, In] at e; cases e) (fun z => by rw [z, kts_self FG] at e; cases e) (FG.keep b o e), FG.above⟩
  have N5 : News g2' C h5 ((d, dO) :: (I, iterO dd (i + 1) kv.length ep (.int ki kt) (.str x ui)) :: (ad, genO gi y1 y2) :: (237, tabObj ps') :: (rs.flatMap (rfNews w.params) ++ rest)) := fun q hq => by
    rcases List.mem_cons.mp hq with rfl | hq
    · have z := NG _ (.head _)
      exact ⟨up5 _ _ hdI z.2.1 z.1, z.2⟩
    · rcases List.mem_cons.mp hq with rfl | hq
      · exact ⟨hI5, eI, In⟩
      · have z := NG q (.tail _ (.tail _ hq))
        exact ⟨up5 _ _ (hne q hq).1 z.2.1 z.1, z.2⟩
  refine nts_elt (x := x) (t := ui) (t0 := kt) (ki := ki) (L := C) BG F5 (XB.keeps BG.stays) N5 (TB.keeps BG.stays) XB TB DG hk rfl hd hu rfl rfl hg rfl k1 k2 k3 k4 ((if_neg (by decide)).trans (if_pos rfl)) (if_pos rfl) hx hkind hki0 hki9 ?_ ?_
  · intro i' oo xx fd p tt q1 q2 q3 t1 t2 t3 h6 tk6 hfac hbd S6 fr6
    obtain ⟨g6, T6, F6, N6, B6, D6⟩ := turn BG F5 N5 DG S6
    have N7 := fr6.ledger F5 T6 N6
    refine hn p _ (Str.ofString (toString ki)) tt (.ref xx) (rfKvs ks rs) h6 _ (fr6 _ (.head _)).2 rfl rfl ?_ (Heap.dictOf_iff.mpr ⟨dO, (N6 _ (.head _)).1, hdO⟩) (genO_is (N6 _ (.tail _ (.tail _ (.head _)))).1) fun h'' hd'' hs'' => ?_
    · simp only [rfKvs, List.length_map, List.length_zip]; omega
    · obtain ⟨dO', hdg, hdO'⟩ := Heap.dictOf_iff.mp hd''
      have hC : d ≠ C := (N6 _ (.head _)).2.1
      have mem : ∀ q ∈ (ad, genO gi y1 y2) :: (237, tabObj ps') :: ((rs ++ [(⟨xx, fd, i', oo, q1, q2, q3, t1, t2, t3⟩ : RfRec)]).flatMap (rfNews w.params) ++ rest), q ∈ (ad, genO gi y1 y2) :: (237, tabObj ps') :: (rs.flatMap (rfNews w.params) ++ rest) ∨ q ∈ rfNews w.params ⟨xx, fd, i', oo, q1, q2, q3, t1, t2, t3⟩ := fun q hq => by
        simp only [List.flatMap_append, List.flatMap_cons, List.flatMap_nil, List.append_nil, List.append_assoc, List.mem_cons, List.mem_append] at hq ⊢
        rcases hq with h | h | h | h | h
        · exact .inl (.inl h)
        · exact .inl (.inr (.inl h))
        · exact .inl (.inr (.inr (.inl h)))
        · exact .inr h
        · exact .inl (.inr (.inr (.inr h)))
      have app : ∀ q ∈ (ad, genO gi y1 y2) :: (237, tabObj ps') :: ((rs ++ [(⟨xx, fd, i', oo, q1, q2, q3, t1, t2, t3⟩ : RfRec)]).flatMap (rfNews w.params) ++ rest), q.1 ≠ I ∧ q.1 ≠ d := fun q hq => by
        rcases mem q hq with h | h
        · exact hne q h
        · have n := (fr6 q (.tail _ h)).1
          exact ⟨fun z => (by rw [z, hI5] at n; cases n), fun z => (by rw [z, (N5 _ (.head _)).1] at n; cases n)⟩
      refine ⟨⟨rs ++ [⟨xx, fd, i', oo, q1, q2, q3, t1, t2, t3⟩], g6, _, .int ki kt, .str x ui, y1, y2, dO', by simp [hlen], ?_, KT.trans T6, B6, D6, F6.change hs'' hC (N6 _ (.head _)).2.2, ?_, by rw [← hst rs _ hlen]; exact hdO', ?_, hdI⟩⟩
      · intro j r e
        rcases Nat.lt_or_ge j rs.length with h | h
        · rw [List.getElem?_append_left h] at e; exact hrs j r e
        · rw [List.getElem?_append_right h] at e
          cases hz : j - rs.length with
          | zero => rw [hz] at e; cases e; have : j = i := by omega
                    subst this; exact ⟨x, hxs, hfac, hbd⟩
          | succ k => rw [hz] at e; cases e
      · intro q hq
        rcases List.mem_cons.mp hq with rfl | hq
        · exact ⟨hdg, (N6 _ (.head _)).2⟩
        · rcases List.mem_cons.mp hq with rfl | hq
          · have z := N6 _ (.tail _ (.head _))
            exact ⟨hs''.extBut _ _ (Ne.symm hdI) z.1, z.2⟩
          · have ap := app q hq
            have z : h6.get? q.1 = some q.2 ∧ q.1 ≠ C ∧ g6.get? q.1 = none := by
              rcases mem q hq with h | h
              · exact N6 q (.tail _ (.tail _ h))
              · exact N7 q (List.mem_append_left _ (.tail _ h))
            exact ⟨hs''.extBut _ _ ap.2 z.1, z.2⟩
      · exact app
  · intro hfac e ctx h6 tk6 U6 S6
    refine he hfac e ctx g2' h5 _ y1 y2 h6 _ KT BG DG (fun q hq => ?_) F5 U6 S6
    rcases List.mem_cons.mp hq with rfl | hq
    · exact N5 _ (.tail _ (.tail _ (.head _)))
    · rcases List.mem_cons.mp hq with rfl | hq
      · exact N5 _ (.tail _ (.tail _ (.tail _ (.head _))))
      · exact N5 _ (.tail _ (.tail _ (.tail _ (.tail _ (List.mem_append_right _ hq)))))
end
end Mine
end PartE10

section PartE11
open PySem PySem.W PyProof.Rows PySem.Calls PySem.Spec
set_option linter.all false
namespace Mine
section
variable {pt : Program} {w : World} {mean : ExcName → Option Value} {mg mb : Str → Option Value} {dp un : Nat} {gd : Option (List Code)} {env : Env} {outer : List Env} {A₀ : Around} {base h₀ : Heap} {L : Addr} {m : Str → Option Value} {news : List (Addr × Obj)} {s : Shared} {Q E : Value → Shared → Prop} {loose : List Str}
local macro_rules | `(tactic| ke_room) => `(tactic| ktr_units)
local macro_rules | `(tactic| k_units) => `(tactic| ktr_units)
local macro_rules | `(tactic| k_room) => `(tactic| ktr_room)
local macro_rules | `(tactic| walk_at "StrBack") => `(tactic| (k_dflt (dsimp only [StrBack]); (try k_fold)))
local macro_rules | `(tactic| walk_at "CmpBack") => `(tactic| (k_dflt (dsimp only [CmpBack]); (try k_fold)))
def NBad (l : List Env) (A : Around) (base : Heap) (env : Env) (outer : List Env) (g2 : Heap) (C ad : Addr) (gi : Nat) (ps' : Array Value) (rest : List (Addr × Obj)) (e : Value) (h : Heap) : Prop :=
  ∃ (b : Addr) (ctx : Value) (g2' h5 : Heap) (m5 : Str → Option Value) (x y : Value), e = .ref b ∧ KtsTurn (fr (env :: outer)) g2 g2' ∧ Below A base (env :: outer) g2' ∧ KtsDicts (fr (env :: outer)) g2' ∧ Fr g2' C h5 m5 ∧ News g2' C h5 ((ad, genO gi x y) :: (237, tabObj ps') :: rest) ∧
    Up (hideAll h5 (C :: fr (env :: outer))) l b (.type "ValueError") ctx (some .none) h ∧ SlotR (C :: fr (env :: outer)) h5 h
structure NDone (w : World) (A : Around) (base : Heap) (env : Env) (outer : List Env) (g2 : Heap) (C a d : Addr) (gi n : Nat) (ps' : Array Value) (rest : List (Addr × Obj)) (xs : List Str) (ks : List Int) (h : Heap) : Prop where
  st : ∃ (rs : List RfRec) (g2' : Heap) (m'' : Str → Option Value) (x y : Value) (dO : Obj), rs.length = n ∧ (∀ (j : Nat) (r : RfRec), rs[j]? = some r → ∃ xj : Str, xs[j]? = some xj ∧ rfFit xj r) ∧
    KtsTurn (fr (env :: outer)) g2 g2' ∧ Below A base (env :: outer) g2' ∧ KtsDicts (fr (env :: outer)) g2' ∧ Fr g2' C h m'' ∧
    News g2' C h ((d, dO) :: (a, genO gi x y) :: (237, tabObj ps') :: (rs.flatMap (rfNews w.params) ++ rest)) ∧ dO.IsDictOf (PySem.strKind PySem.Challenge.rw_bq5007_01.row.prog w) (rfKvs ks rs)
abbrev nTgt (a b : Str) (pa pb ptt : Pos) : Expr := .Tuple [.Name a pa, .Name b pb] 0 ptt
theorem bad_leave {M : Model} {A A' : Around} {E : Value → Shared → Prop} {s : Shared} {base g2 : Heap} {env cenv : Env} {outer : List Env} {C ad : Addr} {gi : Nat} {ps' : Array Value} {rest : List (Addr × Obj)} {e : Value} {Q : Shared → Prop}
    (hf : cenv.frame = some C) (hk : cenv.scope.kind = .function) (hfr : A'.frames = some (cenv :: env :: outer)) (x : NBad (cenv :: env :: outer) A base env outer g2 C ad gi ps' rest e s.heap)
    (hQ : ∀ b h', e = .ref b → h'.IsGen ad gi → (∃ o, h'.get? b = some o ∧ o.cls = .type "ValueError") → NBad (env :: outer) A base env outer g2 C ad gi ps' rest e h' → Q { s with heap := h' }) :
    wpAny M A' (leaving cenv e) (fun _ s' => Q s') E s := by
  obtain ⟨b, ctx, g2', h5, m5, x, y, rfl, KT, BG, DG, F5, N5, U, S⟩ := x
  refine up_leaving hfr hf U (.inr (.inl rfl)) fun h4 U4 k4 => ?_
  have ff := (pushX BG F5 hf hk).frames
  have e1 : fr (cenv :: env :: outer) = C :: fr (env :: outer) := fr_cons hf
  have S4 : SlotR (C :: fr (env :: outer)) h5 h4 := e1 ▸ slot_of_up ff (e1 ▸ U4.stays) (S.toUp.trans k4)
  obtain ⟨oe, vs, he, hcl, _⟩ := U4.there
  have na : ad ∉ C :: fr (env :: outer) := fun z => by
    rcases List.mem_cons.mp z with z | z
    · exact (N5 _ (.head _)).2.1 z
    · obtain ⟨o, ho, _⟩ := frames_data BG.frames _ z
      rw [(N5 _ (.head _)).2.2] at ho; cases ho
  exact hQ b h4 rfl (genO_is ((S4 _ _ (N5 _ (.head _)).1).1 na)) ⟨oe, he, hcl⟩ ⟨b, ctx, g2', h5, m5, x, y, rfl, KT, BG, DG, F5, N5, U4, S4⟩
set_option maxRecDepth 100000 in
set_option maxHeartbeats 1000000 in
theorem nts_loop {A₁ : Around} {g2 : Heap} {C I ad d dd : Addr} {gi ep : Nat} {ps' : Array Value} {rest : List (Addr × Obj)} {od : Obj} {sc : Scope} {code : Value} {p1 p2 p3 p4 p6 p8 pa pb ptt pos : Pos} {u0 u1 : Tok} {x0 x1 : Str} {iter : Expr}
  (X : (Mine.hd.heap_39 w.params).In g2) (T : Top pt loose mean mg mb g2) (XB : (Mine.hd.heap_39 w.params).In base) (TB : Top pt loose mean mg mb base)
  (hk : sc.kind = .function) (hd : dp + 10 < recursionLimit) (hu : un + 110 < cLine) (hg : env.globals = mainGlobals)
  (k1 : (genEnv sc [] C code builtinsNs env).kindOf (Str.ofString "k") = some .local) (k2 : (genEnv sc [] C code builtinsNs env).kindOf (Str.ofString "v") = some .local) (k3 : (genEnv sc [] C code builtinsNs env).kindOf (Str.ofString "str") = some .globalImplicit) (k4 : (genEnv sc [] C code builtinsNs env).kindOf (Str.ofString "ReplicationFactor") = some .globalImplicit)
  (hmd : (dd, od) ∈ rest) (hat : KdkAt (PySem.intKind PySem.Challenge.rw_bq5007_01.row.prog w) od [(5, .str x0 u0), (7, .str x1 u1)] ep) (hx0 : Small x0) (hkind0 : Kind x0) (hx1 : Small x1) (hkind1 : Kind x1) :
  GenLoop PySem.Challenge.rw_bq5007_01.row.prog w (gTop dp un (some []) env outer) (eltE p1 p2 p3 p4 p6 p8 0) (nTgt (Str.ofString "k") (Str.ofString "v") pa pb ptt) iter sc pos (genEnv sc [] C code builtinsNs env) d ad I gi 2
    (NSt w A₁ base env outer g2 C I ad d dd gi 2 ep ps' rest [x0, x1] [5, 7])
    (fun e h => (factor x0 = none ∨ factor x1 = none) ∧ NBad (genEnv sc [] C code builtinsNs env :: env :: outer) A₁ base env outer g2 C ad gi ps' rest e h)
    (fun e h => (factor x0 = none ∨ factor x1 = none) ∧ NBad (env :: outer) A₁ base env outer g2 C ad gi ps' rest e h)
    (NDone w A₁ base env outer g2 C ad d gi 2 ps' rest [x0, x1] [5, 7]) where
  lim := fun i h S => by
    obtain ⟨rs, g2', m'', ok, ov, y1, y2, dO, hlen, hrs, KT, BG, DG, FG, NG, _⟩ := S.st
    exact (TB.keeps BG.stays).nolimit.keeps FG.keep
  gen := fun i h S => by
    obtain ⟨rs, g2', m'', ok, ov, y1, y2, dO, hlen, hrs, KT, BG, DG, FG, NG, _⟩ := S.st
    exact genO_is (NG _ (.tail _ (.tail _ (.head _)))).1
  self := fun s Q E S q => by
    obtain ⟨rs, g2', m'', ok, ov, y1, y2, dO, hlen, hrs, KT, BG, DG, FG, NG, _⟩ := S.st
    exact kcp_self (NG _ (.tail _ (.head _))).1 q
  item := fun i hi s Qn Er S hq he => by
    have sl : ∀ (i : Nat) (ki : Int) (rs : List RfRec) (r : RfRec), ([5, 7] : List Int)[i]? = some ki → rs.length = i → stored (rfKvs [5, 7] rs) (Str.ofString (toString ki)) (.ref r.xx) = rfKvs [5, 7] (rs ++ [r]) := fun i ki rs r e hl => by
      match rs, i with
      | [], 0 => cases e; rfl
      | [a], 1 => cases e; rfl
      | a :: b :: _, 0 => cases hl
      | [], _ + 1 => cases hl
      | [a], 0 => cases hl
      | [a], n + 2 => cases e
      | a :: b :: l, 1 => cases hl
      | a :: b :: l, n + 2 => cases e
    rcases (show i = 0 ∨ i = 1 by omega) with rfl | rfl
    · refine nts_item (n := 0) (nk := 0) (kv := [(5, .str x0 u0), (7, .str x1 u1)]) (x := x0) (ki := 5) X T XB TB hk (show dp + 1 + 4 < recursionLimit by omega) (show un + 1 + 1 + 0 + 3 + 100 < cLine by omega) hg k1 k2 k3 k4 hmd hat rfl rfl rfl (by decide) (by decide) hx0 hkind0 ?_ ?_ (by omega) (fun rs r => sl 0 5 rs r rfl) S
      · intro p o' ks' t' yv kvs' h' tk' a1 a2 a3 a4 a5 a6 a7
        exact hq p o' ks' t' yv _ kvs' h' tk' a1 a2 a3 a4 a5 a6 a7
      · intro hfac e ctx g2' h5 m5 y1 y2 h' tk' KT BG DG N5 F5 U S
        exact he _ h' tk' ⟨.inl hfac, e, ctx, g2', h5, m5, y1, y2, rfl, KT, BG, DG, F5, N5, U, S⟩
    · refine nts_item (n := 0) (nk := 0) (kv := [(5, .str x0 u0), (7, .str x1 u1)]) (x := x1) (ki := 7) X T XB TB hk (show dp + 1 + 4 < recursionLimit by omega) (show un + 1 + 1 + 0 + 3 + 100 < cLine by omega) hg k1 k2 k3 k4 hmd hat rfl rfl rfl (by decide) (by decide) hx1 hkind1 ?_ ?_ (by omega) (fun rs r => sl 1 7 rs r rfl) S
      · intro p o' ks' t' yv kvs' h' tk' a1 a2 a3 a4 a5 a6 a7
        exact hq p o' ks' t' yv _ kvs' h' tk' a1 a2 a3 a4 a5 a6 a7
      · intro hfac e ctx g2' h5 m5 y1 y2 h' tk' KT BG DG N5 F5 U S
        exact he _ h' tk' ⟨.inr hfac, e, ctx, g2', h5, m5, y1, y2, rfl, KT, BG, DG, F5, N5, U, S⟩
  fin := fun s Q E S hq => by
    obtain ⟨rs, g2', m'', ok, ov, y1, y2, dO, hlen, hrs, KT, BG, DG, FG, NG, hdO, hne, hdI⟩ := S.st
    have hod := (NG (dd, od) (.tail _ (.tail _ (.tail _ (.tail _ (List.mem_append_right _ hmd)))))).1
    refine wpAny_pyNext_items_end (knd := PySem.intKind _ _) rfl (NG _ (.tail _ (.head _))).1 (hat.dictAt hod) rfl fun h' hx => ?_
    have eI : I ≠ C := (NG _ (.tail _ (.head _))).2.1
    have In : g2'.get? I = none := (NG _ (.tail _ (.head _))).2.2
    have up : ∀ q ∈ (d, dO) :: (ad, genO gi y1 y2) :: (237, tabObj ps') :: (rs.flatMap (rfNews w.params) ++ rest), h'.get? q.1 = some q.2 ∧ q.1 ≠ C ∧ g2'.get? q.1 = none := fun q hq => by
      rcases List.mem_cons.mp hq with rfl | hq
      · have z := NG _ (.head _)
        exact ⟨hx _ _ hdI z.1, z.2⟩
      · have z := NG q (.tail _ (.tail _ hq))
        exact ⟨hx _ _ (hne q hq).1 z.1, z.2⟩
    refine hq h' _ (genO_is (up _ (.tail _ (.head _))).1) fun h'' k => ⟨⟨rs, g2', m'', y1, y2, dO, hlen, hrs, KT, BG, DG, frKept ⟨FG.ns.at' fun o e => hx C o (Ne.symm eI) e, fun b o e => hx b o (fun z => by rw [z, In] at e; cases e) (FG.keep b o e), FG.above⟩ k, fun q hq => ⟨k _ _ (up q hq).1, (up q hq).2⟩, hdO⟩⟩
  err := fun e s Q E x hq => by
    obtain ⟨hx, x⟩ := x
    exact bad_leave rfl hk rfl x fun b h' eb hg' ho x' => hq b h' eb hg' ho ⟨hx, x'⟩
end
end Mine
end PartE11

section PartE12
open PySem PySem.W PyProof.Rows PySem.Calls PySem.Spec
set_option linter.all false
namespace Mine
section
variable {pt : Program} {w : World} {mean : ExcName → Option Value} {mg mb : Str → Option Value} {dp un : Nat} {gd : Option (List Code)} {env : Env} {outer : List Env} {A₀ : Around} {base h₀ : Heap} {L : Addr} {m : Str → Option Value} {news : List (Addr × Obj)} {s : Shared} {Q E : Value → Shared → Prop} {loose : List Str}
local macro_rules | `(tactic| ke_room) => `(tactic| ktr_units)
local macro_rules | `(tactic| k_units) => `(tactic| ktr_units)
local macro_rules | `(tactic| k_room) => `(tactic| ktr_room)
local macro_rules | `(tactic| walk_at "StrBack") => `(tactic| (k_dflt (dsimp only [StrBack]); (try k_fold)))
local macro_rules | `(tactic| walk_at "CmpBack") => `(tactic| (k_dflt (dsimp only [CmpBack]); (try k_fold)))
structure Retab (h hm : Heap) (ps' : Array Value) : Prop where
  at_ : hm.get? 237 = some (tabObj ps')
  other : ∀ b, b ≠ 237 → hm.get? b = h.get? b
theorem retab_ex {h : Heap} {ps ps' : Array Value} (e : h.get? 237 = some (tabObj ps)) : ∃ hm, Retab h hm ps' :=
  ⟨h.update 237 fun _ => tabObj ps', Heap.get?_update_self _ e rfl, fun b n => Heap.get?_update_other _ _ (Ne.symm n)⟩
theorem Retab.fr {h hm g : Heap} {ps' : Array Value} (R : Retab h hm ps') (F : Fr g L h m) (n : g.get? 237 = none) (ne : L ≠ 237) : Fr g L hm m :=
  ⟨F.ns.at' fun o e => (R.other _ ne).trans e, fun b o e => (R.other _ fun z => by rw [z, n] at e; cases e).trans (F.keep b o e), F.above⟩
theorem hide_fr {h g : Heap} (F : Fr g L h m) (n : g.get? 237 = none) (ne : L ≠ 237) : Fr g L (hideAll h [237]) m :=
  ⟨F.ns.at' fun o e => hideAll_get _ e (by simpa using ne), fun b o e => hideAll_get _ (F.keep b o e) (by
    rintro (_ | ⟨_, ⟨⟩⟩); rw [n] at e; cases e), F.above⟩
theorem out_new {Fs Fs' : List Addr} {g g' g2 g2' h : Heap} {C : Addr} {l : List (Addr × Obj)} (FG : Fr g L g2 m) (KT : KtsTurn Fs g2 g2') (NG : News g2' C h l) (T : KtsTurn Fs' g g') : News g' L h l := fun q hq => by
  obtain ⟨h1, h2, h3⟩ := NG q hq
  have n2 : g2.get? q.1 = none := by
    cases z : g2.get? q.1 with
    | none => rfl
    | some o => obtain ⟨sl, e⟩ := KT.up z; rw [h3] at e; cases e
  refine ⟨h1, fun z => ?_, T.none_ _ ?_⟩
  · obtain ⟨o, es, ep, ho, _⟩ := FG.ns
    rw [← z, n2] at ho; cases ho
  · cases z : g.get? q.1 with
    | none => rfl
    | some o => rw [FG.keep _ _ z] at n2; cases n2
def GBare (a b : Array GenState) : Prop := AllBare a → AllBare b
theorem gbare_made {a b : Array GenState} {x : GenState} (o : GenOnly a.size (a.push x) b) (f : b[a.size]? = some .finished) : GBare a b := fun h y hy => by
  obtain ⟨i, hi, rfl⟩ := Array.mem_iff_getElem.mp hy
  have e0 : b[i]? = some b[i] := Array.getElem?_eq_getElem hi
  by_cases e : i = a.size
  · subst e; rw [f] at e0; rw [← Option.some.inj e0]; rfl
  · have e1 := o.2 i e
    rw [Array.getElem?_push, if_neg e] at e1
    rw [e1] at e0
    exact h _ (Array.mem_of_getElem? e0)
set_option maxRecDepth 100000 in
set_option maxHeartbeats 1000000 in
theorem nts_dict1 {g g2 h1 : Heap} {C I ad dd : Addr} {gs0 : Array GenState} {ep : Nat} {ps ps' : Array Value} {rest : List (Addr × Obj)} {od : Obj} {sc : Scope} {code : Value} {p1 p2 p3 p4 p6 p8 pa pb ptt pos : Pos} {u0 u1 : Tok} {x0 x1 : Str} {iter : Expr}
  (GM : GenMade (Mine.hd.heap_39 w.params) pt loose mean mg mb (gTop dp un (some []) env outer) base g env outer L 237 m ps ps' rest h1 s.heap g2 C I ad dd gs0.size 2 ep)
  (hgens : s.gens = gs0.push (.fresh (gStart (eltE p1 p2 p3 p4 p6 p8 0) (nTgt (Str.ofString "k") (Str.ofString "v") pa pb ptt) iter sc pos (.ref I) (genEnv sc [] C code builtinsNs env))))
  (B : Below A₀ base outer g) (D : KtsDicts (fr outer) g) (hf : env.frame = some L) (hke : env.scope.kind = .function) (XB : (Mine.hd.heap_39 w.params).In base) (TB : Top pt loose mean mg mb base)
  (hk : sc.kind = .function) (hco : sc.isCoroutine = false) (hd : dp + 10 < recursionLimit) (hu : un + 120 < cLine) (hg : env.globals = mainGlobals)
  (k1 : (genEnv sc [] C code builtinsNs env).kindOf (Str.ofString "k") = some .local) (k2 : (genEnv sc [] C code builtinsNs env).kindOf (Str.ofString "v") = some .local) (k3 : (genEnv sc [] C code builtinsNs env).kindOf (Str.ofString "str") = some .globalImplicit) (k4 : (genEnv sc [] C code builtinsNs env).kindOf (Str.ofString "ReplicationFactor") = some .globalImplicit)
  (hmd : (dd, od) ∈ rest) (hat : KdkAt (PySem.intKind PySem.Challenge.rw_bq5007_01.row.prog w) od [(5, .str x0 u0), (7, .str x1 u1)] ep) (hx0 : Small x0) (hkind0 : Kind x0) (hx1 : Small x1) (hkind1 : Kind x1)
  (hret : ∀ d rs dO g' h' tk' G', rs.length = 2 → (∀ (j : Nat) (r : RfRec), rs[j]? = some r → ∃ xj : Str, [x0, x1][j]? = some xj ∧ rfFit xj r) → dO.IsDictOf (PySem.strKind PySem.Challenge.rw_bq5007_01.row.prog w) (rfKvs [5, 7] rs) → (d == sysModules) = false → KtsTurn (fr outer) g g' → Fr g' L h' m →
    News g' L h' ((d, dO) :: (237, tabObj ps') :: (rs.flatMap (rfNews w.params) ++ rest)) → Below A₀ base outer g' → KtsDicts (fr outer) g' → GBare gs0 G' → Q (.ref d) { s with heap := h', toks := tk', gens := G' })
  (herr : (factor x0 = none ∨ factor x1 = none) → ∀ e ctx hm h' tk' G', Retab h1 hm ps' → Up (hideAll hm (L :: fr outer)) (env :: outer) e (.type "ValueError") ctx (some .none) h' → SlotR (L :: fr outer) hm h' → GBare gs0 G' → E (.ref e) { s with heap := h', toks := tk', gens := G' }) :
  wpC (model PySem.Challenge.rw_bq5007_01.row.prog w) (gTop dp un (some []) env outer) (call (.type "dict") [.ref ad]) Q E s := by
  obtain ⟨x, y, N2⟩ := GM.N2
  have hga := (N2 _ (.head _)).1
  have h237 := (GM.N1 _ (.head _)).1
  have hn237 := (GM.N1 _ (.head _)).2
  refine dict_gen_C (a := ad) (g := gs0.size) hga rfl (genO_is hga) fun d h4 tk4 dn dsz k4' hd4 => ?_
  show codeC _ (gTop dp (un + 1) (some []) env outer) _ _ _
  refine GenLoop.turns (d := d) (n := 2) (nts_loop (p1 := p1) (p2 := p2) (p3 := p3) (p4 := p4) (p6 := p6) (p8 := p8) (pa := pa) (pb := pb) (ptt := ptt) (iter := iter) (pos := pos) (code := code) (C := C) (I := I) (ad := ad) (d := d) (dd := dd) (gi := gs0.size) (ep := ep) (ps' := ps') (rest := rest) (A₁ := gTop dp un (some []) env outer) (dp := dp) (un := un + 1) (g2 := g2)
    GM.X2 GM.T2 XB TB hk hd (by omega) hg k1 k2 k3 k4 hmd hat hx0 hkind0 hx1 hkind1) rfl (show dp < recursionLimit by omega) hco 2 0 _ (.fresh (gStart (eltE p1 p2 p3 p4 p6 p8 0) (nTgt (Str.ofString "k") (Str.ofString "v") pa pb ptt) iter sc pos (.ref I) (genEnv sc [] C code builtinsNs env))) rfl (by omega) ?st (fun _ => rfl) ?gs (.inl rfl) ?good ?bad
  case gs =>
    show s.gens[gs0.size]? = _
    rw [hgens]; simp
  case st =>
    have dC : d ≠ C := fun z => by
      obtain ⟨o, _, _, ho, _⟩ := GM.F2.ns
      rw [← z, dn] at ho; cases ho
    have dg : g2.get? d = none := by
      cases z : g2.get? d with
      | none => rfl
      | some o => rw [GM.F2.keep _ _ z] at dn; cases dn
    have nd : ∀ q ∈ (ad, genO gs0.size x y) :: (I, iterO dd 0 2 ep .none .none) :: (237, tabObj ps') :: rest, q.1 ≠ d := fun q hq z => by
      have e := (N2 q hq).1
      rw [z, dn] at e; cases e
    have nI : ∀ q ∈ (ad, genO gs0.size x y) :: (237, tabObj ps') :: rest, q.1 ≠ I := fun q hq z => by
      have eI := (N2 _ (.tail _ (.head _))).1
      rcases List.mem_cons.mp hq with rfl | hq
      · rw [← show ad = I from z, hga] at eI; injection eI with eI; exact absurd (congrArg Obj.cls eI) (by simp)
      · have e := (GM.N1 _ (.head _)).1
        rcases List.mem_cons.mp hq with rfl | hq
        · rw [show 237 = I from z, GM.fresh.2.2] at e; cases e
        · have e := (GM.N1 q (.tail _ hq)).1
          rw [z, GM.fresh.2.2] at e; cases e
    refine ⟨[], g2, _, .none, .none, x, y, { cls := .type "dict", data := .dict #[] }, rfl, nofun, KtsTurn.refl, GM.BG, GM.D2, frKept GM.F2 k4', fun q hq => ?_, ?_, fun q hq => ?_, fun z => nd _ (.tail _ (.head _)) z.symm⟩
    · rcases List.mem_cons.mp hq with rfl | hq
      · exact ⟨hd4, dC, dg⟩
      · rcases List.mem_cons.mp hq with rfl | hq
        · exact newsKept N2 k4' _ (.tail _ (.head _))
        · rcases List.mem_cons.mp hq with rfl | hq
          · exact newsKept N2 k4' _ (.head _)
          · exact newsKept N2 k4' _ (.tail _ (.tail _ hq))
    · exact ⟨#[], 0, ⟨rfl, rfl, rfl⟩, rfl, fun e he => by simp at he, by first | exact .nil | trivial | simp [Pairs], List.nodup_nil⟩
    · refine ⟨nI q hq, nd q ?_⟩
      rcases List.mem_cons.mp hq with rfl | hq
      · exact .head _
      · exact .tail _ (.tail _ hq)
  case good =>
    intro h' tk' G' go gf S
    have lo : (d == sysModules) = false := beq_eq_false_iff_ne.mpr (Nat.ne_of_gt (Nat.lt_of_lt_of_le (Nat.lt_trans (modules_low GM.T2.nolimit) (Nat.lt_of_le_of_lt GM.F2.above GM.F2.ns.lt)) dsz))
    obtain ⟨rs, g2', m'', x, y, dO, hlen, hrs, KT, BG, DG, FG, NG, hdO⟩ := S.st
    have gb : GBare gs0 G' := gbare_made (by rw [← hgens]; exact go) gf
    have S1 := GM.back g2' h' m'' KT FG fun q hq => NG q (.tail _ (.tail _ (.tail _ (List.mem_append_right _ hq))))
    obtain ⟨g', T', F', _, B', D'⟩ := turn (news := []) B (hide_fr GM.F1 hn237.2 (Ne.symm hn237.1)) (fun _ hp => nomatch hp) D S1
    refine ⟨rfl, hret d rs dO g' h' tk' G' hlen hrs hdO lo T' F' (fun q hq => ?_) B' D' gb⟩
    refine out_new GM.FG KT NG T' q ?_
    rcases List.mem_cons.mp hq with rfl | hq
    · exact .head _
    · exact .tail _ (.tail _ hq)
  case bad =>
    intro e h' tk' G' go gf ⟨hx, b, ctx, g2', h5, m5, x, y, eb, KT, BG, DG, F5, N5, U, S⟩
    subst eb
    have gb : GBare gs0 G' := gbare_made (by rw [← hgens]; exact go) gf
    obtain ⟨hm, R⟩ := retab_ex (ps' := ps') h237
    have S1 := GM.back g2' h5 m5 KT F5 fun q hq => N5 q (.tail _ (.tail _ hq))
    have S2 : SlotR (L :: fr outer) hm h5 := fun b o q => by
      by_cases z : b = 237
      · subst z
        rw [R.at_] at q; cases q
        have := (N5 _ (.tail _ (.head _))).1
        exact ⟨fun _ => this, fun _ => ⟨_, this⟩⟩
      · rw [R.other b z] at q
        exact S1 b o (hideAll_get _ q (by simpa using z))
    have nC : hm.get? C = none := by
      rw [R.other C fun z => ?_]
      · exact GM.fresh.1
      · have := GM.fresh.1
        rw [z, h237] at this; cases this
    have bk : ∀ b ∈ C :: fr (env :: outer), b ∈ L :: fr outer ∨ hm.get? b = none := fun b hb => by
      rcases List.mem_cons.mp hb with rfl | hb
      · exact .inr nC
      · exact .inl (fr_cons hf ▸ hb)
    have S3 : SlotR (L :: fr outer) hm h' := ((S2.more (Fs' := C :: L :: fr outer) fun b hb => .inl (.tail _ hb)).trans (fr_cons (outer := outer) hf ▸ S)).more fun b hb => by
      rcases List.mem_cons.mp hb with rfl | hb
      · exact .inr nC
      · exact .inl hb
    exact herr hx b ctx hm h' tk' G' R (U.back S2 bk) S3 gb
end
end Mine
end PartE12

local macro_rules | `(tactic| walk_at "no key") => `(tactic| fail)
local macro_rules | `(tactic| walk_at "no key") => `(tactic| fail)
local macro_rules | `(tactic| walk_at "no key") => `(tactic| fail)
section PartE13
open PySem PySem.W PyProof.Rows PySem.Calls PySem.Spec
set_option linter.all false
namespace Mine
section
variable {pt : Program} {w : World} {mean : ExcName → Option Value} {mg mb : Str → Option Value} {dp un : Nat} {gd : Option (List Code)} {env : Env} {outer : List Env} {A₀ : Around} {base h₀ : Heap} {L : Addr} {m : Str → Option Value} {news : List (Addr × Obj)} {s : Shared} {Q E : Value → Shared → Prop} {loose : List Str}
local macro_rules | `(tactic| ke_room) => `(tactic| ktr_units)
local macro_rules | `(tactic| k_units) => `(tactic| ktr_units)
local macro_rules | `(tactic| k_room) => `(tactic| ktr_room)
local macro_rules | `(tactic| walk_at "StrBack") => `(tactic| (k_dflt (dsimp only [StrBack]); (try k_fold)))
local macro_rules | `(tactic| walk_at "CmpBack") => `(tactic| (k_dflt (dsimp only [CmpBack]); (try k_fold)))
structure MSt (w : World) (A : Around) (base : Heap) (env : Env) (outer : List Env) (g2 : Heap) (C I a d dd : Addr) (gi n ep : Nat) (ps' : Array Value) (rest : List (Addr × Obj)) (fu : List (Str × Value)) (i : Nat) (h : Heap) : Prop where
  st : ∃ (g2' : Heap) (m'' : Str → Option Value) (ok ov x y : Value) (dO : Obj),
    KtsTurn (fr (env :: outer)) g2 g2' ∧ Below A base (env :: outer) g2' ∧ KtsDicts (fr (env :: outer)) g2' ∧ Fr g2' C h m'' ∧
    News g2' C h ((d, dO) :: (I, iterO dd i n ep ok ov) :: (a, genO gi x y) :: (237, tabObj ps') :: rest) ∧
    dO.IsDictOf (PySem.strKind PySem.Challenge.rw_bq5007_01.row.prog w) (fu.take i) ∧ (∀ q ∈ (a, genO gi x y) :: (237, tabObj ps') :: rest, q.1 ≠ I ∧ q.1 ≠ d) ∧ d ≠ I
abbrev elt2 (p1 p2 p3 p4 : Pos) (n : Nat) : Expr := .Tuple [.Name (Str.ofString "dc") p1, .Attribute (.Name (Str.ofString "rf") p2) (Str.ofString "full_replicas") p3] n p4
set_option maxRecDepth 100000 in
set_option maxHeartbeats 1000000 in
theorem nts_item2 {A₁ : Around} {g2 : Heap} {C I ad d dd : Addr} {gi ep i : Nat} {ps' : Array Value} {rest : List (Addr × Obj)} {fu kv : List (Str × Value)} {od : Obj} {sc : Scope} {code : Value} {p1 p2 p3 p4 pa pb ptt : Pos} {n nk : Nat} {ks : Str} {r : RfRec} {Qn Er : Value → Shared → Prop}
  (XB : (Mine.hd.heap_39 w.params).In base) (TB : Top pt loose mean mg mb base)
  (hk : sc.kind = .function) (hd : dp + 4 < recursionLimit) (hu : un + 100 < cLine) 
  (k1 : (genEnv sc [] C code builtinsNs env).kindOf (Str.ofString "dc") = some .local) (k2 : (genEnv sc [] C code builtinsNs env).kindOf (Str.ofString "rf") = some .local)
  (hmd : (dd, od) ∈ rest) (hat : KdkAt (PySem.strKind PySem.Challenge.rw_bq5007_01.row.prog w) od kv ep) (hxi : kv[i]? = some (ks, .ref r.xx)) (hr1 : (r.xx, instObj 176 r.fd) ∈ rest) (hr2 : (r.fd, rfD w.params r.i r.oo r.q1 r.q2 r.q3 r.t1 r.t2 r.t3) ∈ rest)
  (hn : ∀ p o' ks' t' yv kvs' h' tk' , h'.get? p = some o' → o'.cls = .type "tuple" → o'.data = .seq #[.str ks' t', yv] → kvs'.length ≤ 100 → h'.DictOf (PySem.strKind PySem.Challenge.rw_bq5007_01.row.prog w) d kvs' → h'.IsGen ad gi →
      (∀ h'', h''.DictOf (PySem.strKind PySem.Challenge.rw_bq5007_01.row.prog w) d (stored kvs' ks' yv) → Heap.SameBut d h' h'' → MSt w A₁ base env outer g2 C I ad d dd gi kv.length ep ps' rest fu (i + 1) h'') → Qn (.ref p) { s with heap := h', toks := tk' })
  (hi : i ≤ 100) (hst : stored (fu.take i) ks (.int (fullV r.i r.oo) r.t3) = fu.take (i + 1))
  (S : MSt w A₁ base env outer g2 C I ad d dd gi kv.length ep ps' rest fu i s.heap) :
  wpAny (model PySem.Challenge.rw_bq5007_01.row.prog w) (gTop dp un (some []) (genEnv sc [] C code builtinsNs env) (env :: outer)) (pyNext (.ref I)) (fun x s₁ => match x with
      | none => False
      | some v => wpAny (model PySem.Challenge.rw_bq5007_01.row.prog w) (gTop dp un (some []) (genEnv sc [] C code builtinsNs env) (env :: outer)) (letOwnedTupleGo (.Tuple [.Name (Str.ofString "dc") pa, .Name (Str.ofString "rf") pb] nk ptt) (.ref I) v) (fun _ s₂ => wpAny (model PySem.Challenge.rw_bq5007_01.row.prog w) (gTop dp un (some []) (genEnv sc [] C code builtinsNs env) (env :: outer)) (assign (.Tuple [.Name (Str.ofString "dc") pa, .Name (Str.ofString "rf") pb] nk ptt) (genEnv sc [] C code builtinsNs env) v) (fun _ s₃ =>
        wpC (model PySem.Challenge.rw_bq5007_01.row.prog w) (gTop dp un (some []) (genEnv sc [] C code builtinsNs env) (env :: outer)) (eval (elt2 p1 p2 p3 p4 n) (genEnv sc [] C code builtinsNs env)) Qn Er s₃) Er s₂) Er s₁) Er s := by
  obtain ⟨g2', m'', ok, ov, y1, y2, dO, KT, BG, DG, FG, NG, hdO, hne, hdI⟩ := S.st
  have hI := (NG _ (.tail _ (.head _))).1
  have hod := (NG (dd, od) (.tail _ (.tail _ (.tail _ (.tail _ hmd))))).1
  refine wpAny_pyNext_items_item (knd := PySem.strKind _ _) hI (hat.dictAt hod) hxi fun key h1 hkey hout ht hsz hkp => ?_
  obtain ⟨kt, rfl⟩ := Value.isStrOf_shape hkey
  dsimp only
  refine wpAny_letOwnedTupleGo_items hout fun h2 hit2 hs2 => ?_
  have eI : I ≠ C := (NG _ (.tail _ (.head _))).2.1
  have tI : s.heap.objs.size ≠ I := Nat.ne_of_gt (Heap.lt_size hI)
  refine wpAny_assign_Tuple (items := #[.str ks kt, .ref r.xx]) rfl ⟨_, hs2.extBut _ _ tI ht, rfl, _, rfl⟩ rfl rfl fun h3 hx3 => ?_
  show wpAny _ _ (do holding [Value.ref r.xx] (assign (.Name (Str.ofString "dc") pa) (genEnv sc [] C code builtinsNs env) (.str ks kt)); holding [] (assign (.Name (Str.ofString "rf") pb) (genEnv sc [] C code builtinsNs env) (.ref r.xx)); pure ()) _ _ _
  have up3 : ∀ b o, b ≠ I → s.heap.get? b = some o → h3.get? b = some o := fun b o nb e => hx3 b o (Nat.ne_of_lt (Heap.lt_size (hs2.extBut b o nb (hkp b o nb e)))) (hs2.extBut b o nb (hkp b o nb e))
  refine wpAny_bind (wpAny_holding (wpAny_assign_Name (wpAny_storeName_local k1 (FG.ns.at' fun o e => up3 _ o (Ne.symm eI) e) (fun h4 hn4 hs4 => ?_) (by simp [genEnv, hk]))))
  refine wpAny_bind (wpAny_holding (wpAny_assign_Name (wpAny_storeName_local k2 hn4 (fun h5 hn5 hs5 => wpAny_pure ?_) (by simp [genEnv, hk]))))
  replace hs4 : Heap.SameBut C h3 h4 := hs4
  replace hs5 : Heap.SameBut C h4 h5 := hs5
  replace hn5 : h5.Ns C _ := hn5
  have up5 : ∀ b o, b ≠ I → b ≠ C → s.heap.get? b = some o → h5.get? b = some o := fun b o nb nc e => hs5.extBut b o nc (hs4.extBut b o nc (up3 b o nb e))
  have iT : I ≠ h2.objs.size := Nat.ne_of_lt (Heap.lt_size hit2)
  have hI5 : h5.get? I = some (iterO dd (i + 1) kv.length ep (.str ks kt) (.ref r.xx)) := hs5.extBut I _ eI (hs4.extBut I _ eI (hx3 I _ iT hit2))
  have In : g2'.get? I = none := (NG _ (.tail _ (.head _))).2.2
  have F5 : Fr g2' C h5 _ := ⟨hn5, fun b o e => up5 b o (fun z => by rw [z, In] at e; cases e) (fun z => by rw [z, kts_self FG] at e; cases e) (FG.keep b o e), FG.above⟩
  have N5 : News g2' C h5 ((d, dO) :: (I, iterO dd (i + 1) kv.length ep (.str ks kt) (.ref r.xx)) :: (ad, genO gi y1 y2) :: (237, tabObj ps') :: rest) := fun q hq => by
    rcases List.mem_cons.mp hq with rfl | hq
    · have z := NG _ (.head _)
      exact ⟨up5 _ _ hdI z.2.1 z.1, z.2⟩
    · rcases List.mem_cons.mp hq with rfl | hq
      · exact ⟨hI5, eI, In⟩
      · have z := NG q (.tail _ (.tail _ hq))
        exact ⟨up5 _ _ (hne q hq).1 z.2.1 z.1, z.2⟩
  have X2 := XB.keeps BG.stays
  have T2 := TB.keeps BG.stays
  have N6 := news_cons (news_cons N5 (.tail _ (.tail _ (.tail _ (.tail _ hr2))))) (.tail _ (.tail _ (.tail _ (.tail _ (.tail _ hr1)))))
  refine C_tuple2 (wpC_of (nameE_L F5 ((if_neg (by decide)).trans (if_pos rfl)) ?_ rfl hk k1))
  refine wpC_of (Attribute_name (nameE_L F5 (if_pos rfl) ?_ rfl hk k2))
  clear N5
  unfold rfD at N6
  w_strict (
    w_top off
    k_steps
    refine wpC_of (wpAny_newTuple ?_)
    have kp : ∀ b o, h5.get? b = some o → (h5.push { cls := .type "tuple", data := .seq #[.str ks kt, .int (fullV r.i r.oo) r.t3] }).get? b = some o := fun b o e => Heap.get?_push_of_some _ e
    have F7 := frKept F5 kp
    have N7 : News g2' C _ ((d, dO) :: (I, iterO dd (i + 1) kv.length ep (.str ks kt) (.ref r.xx)) :: (ad, genO gi y1 y2) :: (237, tabObj ps') :: rest) := fun q hq => newsKept N6 kp q (.tail _ (.tail _ hq))
    refine hn _ _ ks kt (.int (fullV r.i r.oo) r.t3) (fu.take i) _ _ (Heap.get?_push_size _ rfl) rfl rfl ?_ (Heap.dictOf_iff.mpr ⟨dO, (N7 _ (.head _)).1, hdO⟩) (genO_is (N7 _ (.tail _ (.tail _ (.head _)))).1) fun h'' hd'' hs'' => ?_
    · rw [List.length_take]; omega
    · obtain ⟨dO', hdg, hdO'⟩ := Heap.dictOf_iff.mp hd''
      refine ⟨⟨g2', _, .str ks kt, .ref r.xx, y1, y2, dO', KT, BG, DG, F7.change hs'' (N7 _ (.head _)).2.1 (N7 _ (.head _)).2.2, fun q hq => ?_, hst ▸ hdO', hne, hdI⟩⟩
      rcases List.mem_cons.mp hq with rfl | hq
      · exact ⟨hdg, (N7 _ (.head _)).2⟩
      · have z := N7 q (.tail _ hq)
        refine ⟨hs''.extBut _ _ ?_ z.1, z.2⟩
        rcases List.mem_cons.mp hq with rfl | hq
        · exact Ne.symm hdI
        · exact (hne q hq).2)
structure MDone (w : World) (A : Around) (base : Heap) (env : Env) (outer : List Env) (g2 : Heap) (C a d : Addr) (gi : Nat) (ps' : Array Value) (rest : List (Addr × Obj)) (fu : List (Str × Value)) (h : Heap) : Prop where
  st : ∃ (g2' : Heap) (m'' : Str → Option Value) (x y : Value) (dO : Obj),
    KtsTurn (fr (env :: outer)) g2 g2' ∧ Below A base (env :: outer) g2' ∧ KtsDicts (fr (env :: outer)) g2' ∧ Fr g2' C h m'' ∧
    News g2' C h ((d, dO) :: (a, genO gi x y) :: (237, tabObj ps') :: rest) ∧ dO.IsDictOf (PySem.strKind PySem.Challenge.rw_bq5007_01.row.prog w) fu
def fuKvs (ks : List Int) (rs : List RfRec) : List (Str × Value) := (ks.zip rs).map fun p => (Str.ofString (toString p.1), .int (fullV p.2.i p.2.oo) p.2.t3)
set_option maxRecDepth 100000 in
set_option maxHeartbeats 1000000 in
theorem nts_loop2 {A₁ : Around} {g2 : Heap} {C I ad d dd : Addr} {gi ep : Nat} {ps' : Array Value} {rest : List (Addr × Obj)} {od : Obj} {sc : Scope} {code : Value} {p1 p2 p3 p4 pa pb ptt pos : Pos} {r0 r1 : RfRec} {iter : Expr}
  (XB : (Mine.hd.heap_39 w.params).In base) (TB : Top pt loose mean mg mb base)
  (hk : sc.kind = .function) (hd : dp + 10 < recursionLimit) (hu : un + 110 < cLine)
  (k1 : (genEnv sc [] C code builtinsNs env).kindOf (Str.ofString "dc") = some .local) (k2 : (genEnv sc [] C code builtinsNs env).kindOf (Str.ofString "rf") = some .local)
  (hmd : (dd, od) ∈ rest) (hat : KdkAt (PySem.strKind PySem.Challenge.rw_bq5007_01.row.prog w) od (rfKvs [5, 7] [r0, r1]) ep) (hr : ∀ r ∈ [r0, r1], ∀ q ∈ rfNews w.params r, q ∈ rest) :
  GenLoop PySem.Challenge.rw_bq5007_01.row.prog w (gTop dp un (some []) env outer) (elt2 p1 p2 p3 p4 0) (nTgt (Str.ofString "dc") (Str.ofString "rf") pa pb ptt) iter sc pos (genEnv sc [] C code builtinsNs env) d ad I gi 2
    (MSt w A₁ base env outer g2 C I ad d dd gi 2 ep ps' rest (fuKvs [5, 7] [r0, r1]))
    (fun e h => False) (fun e h => False)
    (MDone w A₁ base env outer g2 C ad d gi ps' rest (fuKvs [5, 7] [r0, r1])) where
  lim := fun i h S => by
    obtain ⟨g2', m'', ok, ov, y1, y2, dO, KT, BG, DG, FG, NG, _⟩ := S.st
    exact (TB.keeps BG.stays).nolimit.keeps FG.keep
  gen := fun i h S => by
    obtain ⟨g2', m'', ok, ov, y1, y2, dO, KT, BG, DG, FG, NG, _⟩ := S.st
    exact genO_is (NG _ (.tail _ (.tail _ (.head _)))).1
  self := fun s Q E S q => by
    obtain ⟨g2', m'', ok, ov, y1, y2, dO, KT, BG, DG, FG, NG, _⟩ := S.st
    exact kcp_self (NG _ (.tail _ (.head _))).1 q
  item := fun i hi s Qn Er S hq he => by
    rcases (show i = 0 ∨ i = 1 by omega) with rfl | rfl
    · refine nts_item2 (n := 0) (nk := 0) (kv := rfKvs [5, 7] [r0, r1]) (r := r0) (fu := fuKvs [5, 7] [r0, r1]) XB TB hk (show dp + 1 + 4 < recursionLimit by omega) (show un + 1 + 1 + 0 + 3 + 100 < cLine by omega) k1 k2 hmd hat rfl (hr r0 (.head _) _ (.head _)) (hr r0 (.head _) _ (.tail _ (.head _))) ?_ (by omega) rfl S
      intro p o' ks' t' yv kvs' h' tk' a1 a2 a3 a4 a5 a6 a7
      exact hq p o' ks' t' yv _ kvs' h' tk' a1 a2 a3 a4 a5 a6 a7
    · refine nts_item2 (n := 0) (nk := 0) (kv := rfKvs [5, 7] [r0, r1]) (r := r1) (fu := fuKvs [5, 7] [r0, r1]) XB TB hk (show dp + 1 + 4 < recursionLimit by omega) (show un + 1 + 1 + 0 + 3 + 100 < cLine by omega) k1 k2 hmd hat rfl (hr r1 (.tail _ (.head _)) _ (.head _)) (hr r1 (.tail _ (.head _)) _ (.tail _ (.head _))) ?_ (by omega) rfl S
      intro p o' ks' t' yv kvs' h' tk' a1 a2 a3 a4 a5 a6 a7
      exact hq p o' ks' t' yv _ kvs' h' tk' a1 a2 a3 a4 a5 a6 a7
  fin := fun s Q E S hq => by
    obtain ⟨g2', m'', ok, ov, y1, y2, dO, KT, BG, DG, FG, NG, hdO, hne, hdI⟩ := S.st
    have hod := (NG (dd, od) (.tail _ (.tail _ (.tail _ (.tail _ hmd))))).1
    refine wpAny_pyNext_items_end (knd := PySem.strKind _ _) rfl (NG _ (.tail _ (.head _))).1 (hat.dictAt hod) rfl fun h' hx => ?_
    have eI : I ≠ C := (NG _ (.tail _ (.head _))).2.1
    have In : g2'.get? I = none := (NG _ (.tail _ (.head _))).2.2
    have up : ∀ q ∈ (d, dO) :: (ad, genO gi y1 y2) :: (237, tabObj ps') :: rest, h'.get? q.1 = some q.2 ∧ q.1 ≠ C ∧ g2'.get? q.1 = none := fun q hq => by
      rcases List.mem_cons.mp hq with rfl | hq
      · have z := NG _ (.head _)
        exact ⟨hx _ _ hdI z.1, z.2⟩
      · have z := NG q (.tail _ (.tail _ hq))
        exact ⟨hx _ _ (hne q hq).1 z.1, z.2⟩
    refine hq h' _ (genO_is (up _ (.tail _ (.head _))).1) fun h'' k => ⟨⟨g2', m'', y1, y2, dO, KT, BG, DG, frKept ⟨FG.ns.at' fun o e => hx C o (Ne.symm eI) e, fun b o e => hx b o (fun z => by rw [z, In] at e; cases e) (FG.keep b o e), FG.above⟩ k, fun q hq => ⟨k _ _ (up q hq).1, (up q hq).2⟩, hdO⟩⟩
  err := fun e s Q E x hq => x.elim
set_option maxRecDepth 100000 in
set_option maxHeartbeats 1000000 in
theorem nts_dict2 {g g2 h1 : Heap} {C I ad dd : Addr} {gs0 : Array GenState} {ep : Nat} {ps ps' : Array Value} {rest : List (Addr × Obj)} {od : Obj} {sc : Scope} {code : Value} {p1 p2 p3 p4 pa pb ptt pos : Pos} {r0 r1 : RfRec} {iter : Expr}
  (GM : GenMade (Mine.hd.heap_39 w.params) pt loose mean mg mb (gTop dp un (some []) env outer) base g env outer L 237 m ps ps' rest h1 s.heap g2 C I ad dd gs0.size 2 ep)
  (hgens : s.gens = gs0.push (.fresh (gStart (elt2 p1 p2 p3 p4 0) (nTgt (Str.ofString "dc") (Str.ofString "rf") pa pb ptt) iter sc pos (.ref I) (genEnv sc [] C code builtinsNs env))))
  (B : Below A₀ base outer g) (D : KtsDicts (fr outer) g) (hf : env.frame = some L) (hke : env.scope.kind = .function) (XB : (Mine.hd.heap_39 w.params).In base) (TB : Top pt loose mean mg mb base)
  (hk : sc.kind = .function) (hco : sc.isCoroutine = false) (hd : dp + 10 < recursionLimit) (hu : un + 120 < cLine)
  (k1 : (genEnv sc [] C code builtinsNs env).kindOf (Str.ofString "dc") = some .local) (k2 : (genEnv sc [] C code builtinsNs env).kindOf (Str.ofString "rf") = some .local)
  (hmd : (dd, od) ∈ rest) (hat : KdkAt (PySem.strKind PySem.Challenge.rw_bq5007_01.row.prog w) od (rfKvs [5, 7] [r0, r1]) ep) (hr : ∀ r ∈ [r0, r1], ∀ q ∈ rfNews w.params r, q ∈ rest)
  (hret : ∀ d dO g' h' tk' G', dO.IsDictOf (PySem.strKind PySem.Challenge.rw_bq5007_01.row.prog w) (fuKvs [5, 7] [r0, r1]) → (d == sysModules) = false → KtsTurn (fr outer) g g' → Fr g' L h' m →
    News g' L h' ((d, dO) :: (237, tabObj ps') :: rest) → Below A₀ base outer g' → KtsDicts (fr outer) g' → GBare gs0 G' → Q (.ref d) { s with heap := h', toks := tk', gens := G' }) :
  wpC (model PySem.Challenge.rw_bq5007_01.row.prog w) (gTop dp un (some []) env outer) (call (.type "dict") [.ref ad]) Q E s := by
  obtain ⟨x, y, N2⟩ := GM.N2
  have hga := (N2 _ (.head _)).1
  have hn237 := (GM.N1 _ (.head _)).2
  refine dict_gen_C (a := ad) (g := gs0.size) hga rfl (genO_is hga) fun d h4 tk4 dn dsz k4' hd4 => ?_
  show codeC _ (gTop dp (un + 1) (some []) env outer) _ _ _
  refine GenLoop.turns (d := d) (n := 2) (nts_loop2 (p1 := p1) (p2 := p2) (p3 := p3) (p4 := p4) (pa := pa) (pb := pb) (ptt := ptt) (iter := iter) (pos := pos) (code := code) (C := C) (I := I) (ad := ad) (d := d) (dd := dd) (gi := gs0.size) (ep := ep) (ps' := ps') (rest := rest) (A₁ := gTop dp un (some []) env outer) (dp := dp) (un := un + 1) (g2 := g2)
    XB TB hk hd (by omega) k1 k2 hmd hat hr) rfl (show dp < recursionLimit by omega) hco 2 0 _ (.fresh (gStart (elt2 p1 p2 p3 p4 0) (nTgt (Str.ofString "dc") (Str.ofString "rf") pa pb ptt) iter sc pos (.ref I) (genEnv sc [] C code builtinsNs env))) rfl (by omega) ?st (fun _ => rfl) ?gs (.inl rfl) ?good ?bad
  case gs =>
    show s.gens[gs0.size]? = _
    rw [hgens]; simp
  case st =>
    have dC : d ≠ C := fun z => by
      obtain ⟨o, _, _, ho, _⟩ := GM.F2.ns
      rw [← z, dn] at ho; cases ho
    have dg : g2.get? d = none := by
      cases z : g2.get? d with
      | none => rfl
      | some o => rw [GM.F2.keep _ _ z] at dn; cases dn
    have nd : ∀ q ∈ (ad, genO gs0.size x y) :: (I, iterO dd 0 2 ep .none .none) :: (237, tabObj ps') :: rest, q.1 ≠ d := fun q hq z => by
      have e := (N2 q hq).1
      rw [z, dn] at e; cases e
    have nI : ∀ q ∈ (ad, genO gs0.size x y) :: (237, tabObj ps') :: rest, q.1 ≠ I := fun q hq z => by
      have eI := (N2 _ (.tail _ (.head _))).1
      rcases List.mem_cons.mp hq with rfl | hq
      · rw [← show ad = I from z, hga] at eI; injection eI with eI; exact absurd (congrArg Obj.cls eI) (by simp)
      · have e := (GM.N1 _ (.head _)).1
        rcases List.mem_cons.mp hq with rfl | hq
        · rw [show 237 = I from z, GM.fresh.2.2] at e; cases e
        · have e := (GM.N1 q (.tail _ hq)).1
          rw [z, GM.fresh.2.2] at e; cases e
    refine ⟨g2, _, .none, .none, x, y, { cls := .type "dict", data := .dict #[] }, KtsTurn.refl, GM.BG, GM.D2, frKept GM.F2 k4', fun q hq => ?_, ?_, fun q hq => ?_, fun z => nd _ (.tail _ (.head _)) z.symm⟩
    · rcases List.mem_cons.mp hq with rfl | hq
      · exact ⟨hd4, dC, dg⟩
      · rcases List.mem_cons.mp hq with rfl | hq
        · exact newsKept N2 k4' _ (.tail _ (.head _))
        · rcases List.mem_cons.mp hq with rfl | hq
          · exact newsKept N2 k4' _ (.head _)
          · exact newsKept N2 k4' _ (.tail _ (.tail _ hq))
    · exact ⟨#[], 0, ⟨rfl, rfl, rfl⟩, rfl, fun e he => by simp at he, by first | exact .nil | trivial | simp [Pairs], List.nodup_nil⟩
    · refine ⟨nI q hq, nd q ?_⟩
      rcases List.mem_cons.mp hq with rfl | hq
      · exact .head _
      · exact .tail _ (.tail _ hq)
  case good =>
    intro h' tk' G' go gf S
    have lo : (d == sysModules) = false := beq_eq_false_iff_ne.mpr (Nat.ne_of_gt (Nat.lt_of_lt_of_le (Nat.lt_trans (modules_low GM.T2.nolimit) (Nat.lt_of_le_of_lt GM.F2.above GM.F2.ns.lt)) dsz))
    obtain ⟨g2', m'', x, y, dO, KT, BG, DG, FG, NG, hdO⟩ := S.st
    have gb : GBare gs0 G' := gbare_made (by rw [← hgens]; exact go) gf
    have S1 := GM.back g2' h' m'' KT FG fun q hq => NG q (.tail _ (.tail _ (.tail _ hq)))
    obtain ⟨g', T', F', _, B', D'⟩ := turn (news := []) B (hide_fr GM.F1 hn237.2 (Ne.symm hn237.1)) (fun _ hp => nomatch hp) D S1
    refine ⟨rfl, hret d dO g' h' tk' G' hdO lo T' F' (fun q hq => ?_) B' D' gb⟩
    refine out_new GM.FG KT NG T' q ?_
    rcases List.mem_cons.mp hq with rfl | hq
    · exact .head _
    · exact .tail _ (.tail _ hq)
  case bad =>
    intro e h' tk' G' go gf x
    exact x.elim
end
end Mine
end PartE13

local macro_rules | `(tactic| walk_at "no key") => `(tactic| fail)
local macro_rules | `(tactic| walk_at "no key") => `(tactic| fail)
local macro_rules | `(tactic| walk_at "no key") => `(tactic| fail)
section PartE14
open PySem PySem.W PyProof.Rows PySem.Calls PySem.Spec
set_option linter.all false
namespace Mine
section
variable {pt : Program} {w : World} {mean : ExcName → Option Value} {mg mb : Str → Option Value} {dp un : Nat} {gd : Option (List Code)} {cn : Str} {cs : Scope} {a : Addr} {ccd : Value} {cl : List (Str × Addr)} {outer : List Env} {A₀ : Around} {base h₀ : Heap} {L : Addr} {m : Str → Option Value} {news : List (Addr × Obj)} {s : Shared} {Q E : Value → Shared → Prop} {loose : List Str}
local macro_rules | `(tactic| ke_room) => `(tactic| ktr_units)
local macro_rules | `(tactic| k_units) => `(tactic| ktr_units)
local macro_rules | `(tactic| k_room) => `(tactic| ktr_room)
local macro_rules | `(tactic| walk_at "StrBack") => `(tactic| (k_dflt (dsimp only [StrBack]); (try k_fold)))
local macro_rules | `(tactic| walk_at "CmpBack") => `(tactic| (k_dflt (dsimp only [CmpBack]); (try k_fold)))
def ntD (P : Params) (k1 k2 : Tok) (d1 d2 : Addr) : Obj := dictOf [⟨PyData.keyHash P (Str.ofString "dc_replication_factors_info"), .str (Str.ofString "dc_replication_factors_info") k1, .ref d1⟩, ⟨PyData.keyHash P (Str.ofString "dc_replication_factors"), .str (Str.ofString "dc_replication_factors") k2, .ref d2⟩] 2
abbrev ntRest (P : Params) (r0 r1 : RfRec) (d1 : Addr) (dO1 : Obj) (xo dx : Addr) (kq1 : Tok) (hd' : Addr) (o : Obj) (news : List (Addr × Obj)) : List (Addr × Obj) :=
  (d1, dO1) :: (xo, instObj 266 dx) :: (dx, dictOf [⟨PyData.keyHash P (Str.ofString "dc_replication_factors_info"), .str (Str.ofString "dc_replication_factors_info") kq1, .ref d1⟩] 1) :: (r0.xx, instObj 176 r0.fd) :: (r0.fd, rfD P r0.i r0.oo r0.q1 r0.q2 r0.q3 r0.t1 r0.t2 r0.t3) :: (r1.xx, instObj 176 r1.fd) :: (r1.fd, rfD P r1.i r1.oo r1.q1 r1.q2 r1.q3 r1.t1 r1.t2 r1.t3) :: (hd', o) :: news
theorem ne_obj {h g : Heap} {L a b : Addr} {o o' : Obj} {l : List (Addr × Obj)} (N : News g L h l) (ha : (a, o) ∈ l) (hb : (b, o') ∈ l) (n : o ≠ o') : @Ne Nat a b := fun z => by
  have e := (N _ ha).1
  have e' := (N _ hb).1
  rw [show a = b from z] at e
  rw [e] at e'
  exact n (Option.some.inj e')
theorem ne_cls {h g : Heap} {L a b : Addr} {o o' : Obj} {l : List (Addr × Obj)} (N : News g L h l) (ha : (a, o) ∈ l) (hb : (b, o') ∈ l) (n : o.cls ≠ o'.cls) : @Ne Nat a b := ne_obj N ha hb fun z => n (by rw [z])
theorem dict_cls {prog : Program} {κ : Type} [DecidableEq κ] {knd : PySem.KeyKind prog w κ} {o : Obj} {kvs : List (κ × Value)} (h : o.IsDictOf knd kvs) : o.cls = .type "dict" := by
  obtain ⟨_, _, ex, _⟩ := h
  exact ex.1
theorem dict_ne {prog : Program} {κ : Type} [DecidableEq κ] {knd : PySem.KeyKind prog w κ} {o : Obj} {kvs : List (κ × Value)} {es : List DictEntry} {n : Nat} (h : o.IsDictOf knd kvs) (z : es.length ≠ kvs.length) : o ≠ dictOf es n := fun e => by
  obtain ⟨es', ep, ex, hd, _, hp, _⟩ := h
  have := hp.length
  rw [e] at hd
  injection hd with h1 h2
  subst h1
  exact z this
theorem old_up {h h2 : Heap} {L' : Addr} {m' : Str → Option Value} {l : List (Addr × Obj)} (N0 : ∀ p ∈ l, h.get? p.1 = some p.2) (F : Fr (hideAll h (l.map (·.1))) L' h2 m') (N : ∀ p ∈ l, h2.get? p.1 = some p.2) : ∀ b o, h.get? b = some o → h2.get? b = some o := fun b o e => by
  by_cases mem : b ∈ l.map (·.1)
  · obtain ⟨p, hp, rfl⟩ := List.mem_map.mp mem
    rw [N0 p hp] at e; cases e
    exact N p hp
  · exact F.keep b o (hideAll_get _ e mem)
theorem exit_tab {Fs as : List Addr} {h h1 hm g' h' : Heap} {ps' : Array Value} {L' : Addr} {m' : Str → Option Value} (k : ∀ b o, h.get? b = some o → h1.get? b = some o) (T : KtsTurn Fs (hideAll h1 as) g') (F : Fr g' L' h' m') (R : Retab h hm ps') (N0 : ∀ p ∈ news, h.get? p.1 = some p.2)
    (N' : News g' L' h' ((237, tabObj ps') :: news)) (has : ∀ b ∈ as, b = 237 ∨ b ∈ news.map (·.1) ∨ h.get? b = none) : SlotR Fs hm h' := fun b o q => by
  by_cases z : b = 237
  · subst z
    rw [R.at_] at q; cases q
    have := (N' _ (.head _)).1
    exact ⟨fun _ => this, fun _ => ⟨_, this⟩⟩
  · rw [R.other b z] at q
    by_cases mem : b ∈ news.map (·.1)
    · obtain ⟨p, hp, rfl⟩ := List.mem_map.mp mem
      have e := N0 p hp
      rw [q] at e; cases e
      have := (N' p (.tail _ hp)).1
      exact ⟨fun _ => this, fun _ => ⟨_, this⟩⟩
    · have na : b ∉ as := fun y => by
        rcases has b y with y | y | y
        · exact z y
        · exact mem y
        · rw [q] at y; cases y
      have q' := hideAll_get _ (k _ _ q) na
      exact ⟨fun n => F.keep _ _ (T.other b o q' n), fun mm => by
        obtain ⟨sl, hs⟩ := T.frame b o q' mm
        exact ⟨sl, F.keep _ _ hs⟩⟩
theorem news_out {Fs : List Addr} {h1 g6 h9 : Heap} {L' : Addr} {l l' : List (Addr × Obj)} (F1 : Fr h₀ L h1 m) (N0 : News h₀ L h1 l) (T : KtsTurn Fs (hideAll h1 (l.map (·.1))) g6) (N9 : News g6 L' h9 l') : News h₀ L h9 l' := fun q hq => by
  obtain ⟨e1, e2, e3⟩ := N9 q hq
  have no : ∀ b o, h1.get? b = some o → b ∉ l.map (·.1) → g6.get? b ≠ none := fun b o y z => by
    obtain ⟨sl, e⟩ := T.up (hideAll_get _ y z)
    rw [e]; exact nofun
  refine ⟨e1, fun z => ?_, ?_⟩
  · obtain ⟨o, _, _, ho, _⟩ := F1.ns
    refine no _ _ ho (fun y => ?_) (z ▸ e3)
    obtain ⟨p, hp, e⟩ := List.mem_map.mp y
    exact (N0 p hp).2.1 e
  · cases y : h₀.get? q.1 with
    | none => rfl
    | some o =>
      refine absurd e3 (no _ o (F1.keep _ _ y) fun x => ?_)
      obtain ⟨p, hp, e⟩ := List.mem_map.mp x
      have := (N0 p hp).2.2
      rw [e, y] at this; cases this
set_option maxRecDepth 100000 in
set_option maxHeartbeats 8000000 in
theorem nts_C
  {x0 x1 : Str} {u0 u1 : Tok} {hd' : Addr} {o : Obj} {ps : Array Value}
  (B : Below A₀ base outer h₀) (F : Fr h₀ L s.heap m) (X : (Mine.hd.heap_39 w.params).In h₀) (N : News h₀ L s.heap ((237, tabObj ps) :: news)) (hm : (hd', o) ∈ news) (hcl : ∀ q ∈ news, q.2.cls ≠ .none) (hps : TriplesOk ps.toList) (ho : o.IsDictOf (PySem.intKind PySem.Challenge.rw_bq5007_01.row.prog w) [(5, .str x0 u0), (7, .str x1 u1)]) (lo : (hd' == sysModules) = false) (T : Top pt loose mean mg mb h₀) (XB : (Mine.hd.heap_39 w.params).In base) (TB : Top pt loose mean mg mb base) (D : KtsDicts (fr outer) h₀) (hk : cs.kind = .function) (hd : dp + 16 < recursionLimit) (hu : un + 400 < cLine) (hgd : gd = some [])
  (hx0 : Small x0) (hkind0 : Kind x0) (hx1 : Small x1) (hkind1 : Kind x1)
  (hret : ∀ r0 r1 xo dx d1 d2 dO1 dO2 k1 k2 ps' hm h' tk' G', rfFit x0 r0 → rfFit x1 r1 → dO1.IsDictOf (PySem.strKind PySem.Challenge.rw_bq5007_01.row.prog w) (rfKvs [5, 7] [r0, r1]) → dO2.IsDictOf (PySem.strKind PySem.Challenge.rw_bq5007_01.row.prog w) (fuKvs [5, 7] [r0, r1]) → Grew ps ps' → Retab s.heap hm ps' →
    SlotR (L :: fr outer) hm h' → News h₀ L h' ((xo, instObj 266 dx) :: (dx, ntD w.params k1 k2 d1 d2) :: (d1, dO1) :: (d2, dO2) :: (rfNews w.params r0 ++ rfNews w.params r1)) → GBare s.gens G' → (d1 == sysModules) = false → (d2 == sysModules) = false → Q (.ref xo) { s with heap := h', toks := tk', gens := G' })
  (herr : (factor x0 = none ∨ factor x1 = none) → ∀ e ctx ps' hm h' tk' G', Grew ps ps' → Retab s.heap hm ps' → Up (hideAll hm (L :: fr outer)) (envX cn cs L a ccd cl :: outer) e (.type "ValueError") ctx (some .none) h' → SlotR (L :: fr outer) hm h' → GBare s.gens G' → E (.ref e) { s with heap := h', toks := tk', gens := G' }) :
  wpC (model PySem.Challenge.rw_bq5007_01.row.prog w) (ktrTop dp un gd cn cs L a ccd cl outer) (call (.ref 266) [.ref hd']) Q E s := by
  subst hgd
  w_strict (
    w_top off
    refine wpC_call ?_
    refine' make_KC F N (X.keeps F.keep) ?k4 ?k5 ?k6 ?_
    case k4 => k_is
    case k5 => k_is
    case k6 => k_is
    k_whole
    intro xo dx h1 F1 N1 lt1 ltx k1 n1 n2
    have N2 := news_cons N1 (.tail _ (.tail _ (.tail _ hm)))
    (refine' enter_C ?k1 ?k2 ?k3 ?k4 ?k5 ?kD ?kA ?kF ?kK ?k6 ?k7 ?k8 ?k9 ?kB ?_ ?c2 ?c3 ?c4 ?c5); (case kA => exact rfl); (case kF => exact rfl); (case kK => assumption); (case k1 => k_asm); (case k2 => k_asm); (case k3 => k_asm); (case k4 => k_asm); (case k5 => k_asm); (case kD => assumption); (case k6 => k_is); (case k7 => k_is); (case k8 => ktr_room); (case k9 => exact BindsTo.of_eq rfl); (case c5 => decide); (case kB => exact locs rfl); (case c2 => exact rfl); (case c3 => exact rfl); (case c4 => exact rfl); k_whole
    intro g L' h₁ hg F' N' B' X' T' D' hk₁ hL'
    (try dsimp only); (try k_lift B'); (try k_fold)
    refine C_cons (C_assign_attr (C_call_name ?_))
    k_steps
    have HC : CodeHd g 241 237 := codeHd_of_K X' (by kernel_rfl)
    have NP : News g L' h₁ ((237, tabObj ps) :: (hd', o) :: (xo, instObj 266 dx) :: (dx, dictOf [] 0) :: news) := fun q hq => N' q (by
      rcases List.mem_cons.mp hq with rfl | hq
      · exact .tail _ (.tail _ (.tail _ (.head _)))
      · rcases List.mem_cons.mp hq with rfl | hq
        · exact .head _
        · rcases List.mem_cons.mp hq with rfl | hq
          · exact .tail _ (.head _)
          · rcases List.mem_cons.mp hq with rfl | hq
            · exact .tail _ (.tail _ (.head _))
            · exact .tail _ (.tail _ (.tail _ (.tail _ hq))))
    have hcl2 : ∀ q ∈ (hd', o) :: (xo, instObj 266 dx) :: (dx, dictOf [] 0) :: news, q.2.cls ≠ .none := fun q hq => by
      rcases List.mem_cons.mp hq with rfl | hq
      · exact hcl _ hm
      · rcases List.mem_cons.mp hq with rfl | hq
        · exact nofun
        · rcases List.mem_cons.mp hq with rfl | hq
          · exact nofun
          · exact hcl _ hq
    refine gen_items (P := 237) (c := 241) (ps := ps) (knd := PySem.intKind _ _) (kvs := [(5, .str x0 u0), (7, .str x1 u1)]) rfl rfl rfl rfl ?hroom F' B' X' T' D' rfl HC hps rfl (.head _) hcl2 ho (by size_fits) rfl rfl (by decide) rfl rfl (fun _ => rfl) ?hit ?hQ
    case hroom => ktr_room
    case hit =>
      intro Q' hQ'
      with_unfolding_all ((refine MethodCall_ ?_); (refine ld F' (by rfl) ?_); (refine kdl_method (knd := PySem.intKind _ _) PySem.F.slot_dict_items PySem.F.type_dict_items NP (.tail _ (.head _)) ho ?_); (refine callWith_method0 ?_); (refine kta_callItems (knd := PySem.intKind _ _) F' NP (.tail _ (.head _)) ho lo ?_))
      intro h2 hv2 F2 N2'
      exact hQ' _ h2 _ hv2 F2 N2'
    intro code ps' h2 h3 g2 C I ga ep tk3 hat GM
    k_steps
    · exact keepsOk_type
    refine nts_dict1 GM rfl B' D' rfl rfl XB TB rfl rfl ?hd ?hu rfl rfl rfl rfl rfl (.head _) hat hx0 hkind0 hx1 hkind1 ?good ?bad
    case hd => exact (show dp + 2 + 10 < recursionLimit from by omega)
    case hu => exact (show un + 4 + 120 < cLine from by omega)
    case bad =>
      intro hx e ctx hm1 h4 tk4 G4 R U S gb
      subst hg
      have p237 := GM.N1 _ (.head _)
      obtain ⟨hm0, R0⟩ := retab_ex (h := s.heap) (ps' := ps') (N _ (.head _)).1
      have up := old_up (l := (hd', o) :: (xo, instObj 266 dx) :: (dx, dictOf [] 0) :: (237, tabObj ps) :: news) (fun p hp => (N2 p hp).1) GM.F1 fun p hp => (GM.N1 p (by
        simp only [List.mem_cons] at hp ⊢
        rcases hp with h | h | h | h | h <;> simp only [h, true_or, or_true])).1
      have nL : s.heap.get? L' = none := (SlotR.keeps (Fs := []) k1).back hL'
      refine leave_err (h := hm0) (h₁ := hm1) B' (R.fr GM.F1 p237.2.2 (Ne.symm p237.2.1)) rfl rfl rfl U (.inr (.inl rfl)) S (fun b ob q => ?_) ?_ fun h5 U5 S5 => herr hx e ctx ps' hm0 h5 _ G4 GM.grew R0 U5 S5 gb
      · by_cases z : b = 237
        · subst z
          rw [R0.at_] at q; cases q
          exact R.at_
        · rw [R0.other b z] at q
          rw [R.other b z]
          exact up b ob (k1 b ob q)
      · rw [R0.other L' fun z => ?_]
        · exact nL
        · rw [z, (N _ (.head _)).1] at nL; cases nL
    intro d1 rs dO1 g4 h4 tk4 G4 hlen hrs hdO1 lo1 T4 F4 N4 B4 D4 gb4
    obtain ⟨r0, r1, rfl⟩ : ∃ r0 r1, rs = [r0, r1] := by
      match rs, hlen with
      | [r0, r1], _ => exact ⟨r0, r1, rfl⟩
    have X4 := XB.keeps B4.stays
    have TT4 := TB.keeps B4.stays
    simp only [List.flatMap_cons, List.flatMap_nil, rfNews, List.cons_append, List.nil_append] at N4
    have hcls1 := dict_cls hdO1
    have b1 := ne_obj N4 (.head _) (.tail _ (.tail _ (.tail _ (.tail _ (.tail _ (.tail _ (.tail _ (.tail _ (.head _))))))))) (dict_ne hdO1 (by simp [rfKvs]))
    have b3 := ne_obj N4 (.tail _ (.tail _ (.head _))) (.tail _ (.tail _ (.tail _ (.tail _ (.tail _ (.tail _ (.tail _ (.tail _ (.head _))))))))) (by simp [dictOf, instObj])
    have b4 := ne_obj N4 (.tail _ (.tail _ (.tail _ (.head _)))) (.tail _ (.tail _ (.tail _ (.tail _ (.tail _ (.tail _ (.tail _ (.tail _ (.head _))))))))) (by simp [rfD, dictOf])
    have b5 := ne_obj N4 (.tail _ (.tail _ (.tail _ (.tail _ (.head _))))) (.tail _ (.tail _ (.tail _ (.tail _ (.tail _ (.tail _ (.tail _ (.tail _ (.head _))))))))) (by simp [dictOf, instObj])
    have b6 := ne_obj N4 (.tail _ (.tail _ (.tail _ (.tail _ (.tail _ (.head _)))))) (.tail _ (.tail _ (.tail _ (.tail _ (.tail _ (.tail _ (.tail _ (.tail _ (.head _))))))))) (by simp [rfD, dictOf])
    have a1 := allLt_of (d := dx) (l := news) fun p hp => lt1 p (.tail _ hp)
    have a0 : @LT.lt Nat _ 237 dx := lt1 _ (.head _)
    have a2 : @LT.lt Nat _ dx xo := ltx
    have a3 : @LT.lt Nat _ hd' dx := lt1 _ (.tail _ hm)
    k_steps
    rename_i h5 F5 N5
    obtain ⟨kq1, N5⟩ : ∃ kq1, News g4 L' h5 ((d1, dO1) :: (237, tabObj ps') :: (r0.xx, instObj 176 r0.fd) :: (r0.fd, rfD w.params r0.i r0.oo r0.q1 r0.q2 r0.q3 r0.t1 r0.t2 r0.t3) :: (r1.xx, instObj 176 r1.fd) :: (r1.fd, rfD w.params r1.i r1.oo r1.q1 r1.q2 r1.q3 r1.t1 r1.t2 r1.t3) :: (hd', o) :: (xo, instObj 266 dx) :: (dx, dictOf [⟨PyData.keyHash w.params (Str.ofString "dc_replication_factors_info"), .str (Str.ofString "dc_replication_factors_info") kq1, .ref d1⟩] 1) :: news) := ⟨_, N5⟩
    clear B' X' T' D' N' F' NP hcl2 HC
    refine C_last (C_assign_attr (C_call_name ?_))
    k_steps
    have HC : CodeHd g4 241 237 := codeHd_of_K X4 (by kernel_rfl)
    have NP : News g4 L' h5 ((237, tabObj ps') :: ntRest w.params r0 r1 d1 dO1 xo dx kq1 hd' o news) := fun q hq => N5 q (by
      simp only [ntRest, List.mem_cons] at hq ⊢
      rcases hq with h | h | h | h | h | h | h | h | h | h <;> simp only [h, true_or, or_true])
    refine gen_items (P := 237) (c := 241) (ps := ps') (dd := d1) (rest := ntRest w.params r0 r1 d1 dO1 xo dx kq1 hd' o news) (knd := PySem.strKind _ _) (kvs := rfKvs [5, 7] [r0, r1]) rfl rfl rfl rfl ?hroom2 F5 B4 X4 TT4 D4 rfl HC GM.grew.1 rfl (.head _) ?hclx hdO1 (by show 2 ≤ sizeLine; size_fits) rfl rfl (by decide) rfl rfl (fun _ => rfl) ?hit2 ?hQ2
    case hroom2 => ktr_room
    case hclx =>
      intro q hq
      simp only [List.mem_cons] at hq
      rcases hq with rfl | rfl | rfl | rfl | rfl | rfl | rfl | rfl | hq
      · rw [hcls1]; exact nofun
      · exact nofun
      · exact nofun
      · exact nofun
      · exact nofun
      · exact nofun
      · exact nofun
      · exact hcl _ hm
      · exact hcl _ hq
    case hit2 =>
      intro Q' hQ'
      with_unfolding_all refine MethodCall_ ?_
      refine Attribute_name ?_
      k_steps
      rename_i D6 h6 F6 N6 l6
      exact hQ' D6 h6 _ ⟨_, (N6 _ (.head _)).1, rfl, rfl⟩ F6 fun q hq => N6 q (.tail _ hq)
    intro code2 ps2 h6 h7 g5 C2 I2 ga2 ep2 tk5 hat2 GM2
    k_steps
    · exact keepsOk_type
    refine nts_dict2 GM2 rfl B4 D4 rfl rfl XB TB rfl rfl ?hd2 ?hu2 rfl rfl (.head _) hat2 ?hr2 ?good2
    case hd2 => exact (show dp + 2 + 10 < recursionLimit from by omega)
    case hu2 => exact (show un + 4 + 120 < cLine from by omega)
    case hr2 =>
      intro r hr q hq
      simp only [List.mem_cons, List.not_mem_nil, or_false, rfNews] at hr hq
      rcases hr with rfl | rfl <;> rcases hq with rfl | rfl <;> simp [ntRest]
    intro d2 dO2 g6 h8 tk6 G6 hdO2 lo2 T6 F6 N6 B6 D6 gb6
    have X6 := XB.keeps B6.stays
    have TT6 := TB.keeps B6.stays
    have c1 := ne_obj N6 (.head _) (.tail _ (.tail _ (.tail _ (.tail _ (.head _))))) (dict_ne hdO2 (by simp [fuKvs]))
    k_steps
    refine And.intro rfl ?_
    rename_i h9 F9 N9
    obtain ⟨kq2, N9⟩ : ∃ kq2, News g6 L' h9 ((d2, dO2) :: (237, tabObj ps2) :: (d1, dO1) :: (xo, instObj 266 dx) :: (dx, ntD w.params kq1 kq2 d1 d2) :: (r0.xx, instObj 176 r0.fd) :: (r0.fd, rfD w.params r0.i r0.oo r0.q1 r0.q2 r0.q3 r0.t1 r0.t2 r0.t3) :: (r1.xx, instObj 176 r1.fd) :: (r1.fd, rfD w.params r1.i r1.oo r1.q1 r1.q2 r1.q3 r1.t1 r1.t2 r1.t3) :: (hd', o) :: news) := ⟨_, N9⟩
    subst hg
    obtain ⟨hm0, R0⟩ := retab_ex (h := s.heap) (ps' := ps2) (N _ (.head _)).1
    have f0 : rfFit x0 r0 := by obtain ⟨xj, e, f⟩ := hrs 0 r0 rfl; cases e; exact f
    have f1 : rfFit x1 r1 := by obtain ⟨xj, e, f⟩ := hrs 1 r1 rfl; cases e; exact f
    refine hret r0 r1 xo dx d1 d2 dO1 dO2 kq1 kq2 ps2 hm0 h9 _ G6 f0 f1 hdO1 hdO2 (GM.grew.trans GM2.grew) R0 ?_ (news_out F1 N2 (T4.trans T6) fun q hq => N9 q ?_) (fun x => gb6 (gb4 x)) lo1 lo2
    · refine exit_tab (news := news) k1 (T4.trans T6) F9 R0 (fun p hp => (N p (.tail _ hp)).1) (fun q hq => N9 q ?_) fun b hb => ?_
      · rcases List.mem_cons.mp hq with h | h
        · rw [h]; exact .tail _ (.head _)
        · exact .tail _ (.tail _ (.tail _ (.tail _ (.tail _ (.tail _ (.tail _ (.tail _ (.tail _ (.tail _ h)))))))))
      · obtain ⟨p, hp, rfl⟩ := List.mem_map.mp hb
        simp only [List.mem_cons] at hp
        rcases hp with rfl | rfl | rfl | rfl | hp
        · exact .inr (.inl (List.mem_map_of_mem hm))
        · exact .inr (.inr n2)
        · exact .inr (.inr n1)
        · exact .inl rfl
        · exact .inr (.inl (List.mem_map_of_mem hp))
    · simp only [rfNews, List.cons_append, List.nil_append, List.mem_cons, List.not_mem_nil, or_false] at hq ⊢
      rcases hq with h | h | h | h | h | h | h | h <;> simp only [h, true_or, or_true])
end
end Mine
end PartE14

local macro_rules | `(tactic| walk_at "no key") => `(tactic| fail)
local macro_rules | `(tactic| walk_at "no key") => `(tactic| fail)
local macro_rules | `(tactic| walk_at "no key") => `(tactic| fail)
section PartE15
open PySem PySem.W PyProof.Rows PySem.Calls PySem.Spec
set_option linter.all false
namespace Mine
section
variable {pt : Program} {w : World} {mean : ExcName → Option Value} {mg mb : Str → Option Value} {dp un : Nat} {gd : Option (List Code)} {cn : Str} {cs : Scope} {a : Addr} {ccd : Value} {cl : List (Str × Addr)} {outer : List Env} {A₀ : Around} {base h₀ : Heap} {L : Addr} {m : Str → Option Value} {news : List (Addr × Obj)} {s : Shared} {Q E : Value → Shared → Prop} {loose : List Str}
local macro_rules | `(tactic| ke_room) => `(tactic| ktr_units)
local macro_rules | `(tactic| k_units) => `(tactic| ktr_units)
local macro_rules | `(tactic| k_room) => `(tactic| ktr_room)
local macro_rules | `(tactic| walk_at "StrBack") => `(tactic| (k_dflt (dsimp only [StrBack]); (try k_fold)))
local macro_rules | `(tactic| walk_at "CmpBack") => `(tactic| (k_dflt (dsimp only [CmpBack]); (try k_fold)))
theorem retab_news {h hm g : Heap} {ps ps' : Array Value} {l : List (Addr × Obj)} (R : Retab h hm ps') (N : News g L h ((237, tabObj ps) :: l)) (hcl : ∀ q ∈ l, q.2.cls ≠ .none) : News g L hm ((237, tabObj ps') :: l) := fun q hq => by
  rcases List.mem_cons.mp hq with rfl | hq
  · exact ⟨R.at_, (N _ (.head _)).2⟩
  · have z := N q (.tail _ hq)
    refine ⟨(R.other _ fun e => ?_).trans z.1, z.2⟩
    have z0 := (N _ (.head _)).1
    have z1 := z.1
    rw [e, z0] at z1
    exact hcl q hq (by rw [← Option.some.inj z1])
theorem news_turn {fs : List Addr} {g g' h : Heap} {l : List (Addr × Obj)} (N : News g L h l) (T : KtsTurn fs g g') : News g' L h l := fun q hq => ⟨(N q hq).1, (N q hq).2.1, T.none_ _ (N q hq).2.2⟩
theorem news_app {g h : Heap} {l l' : List (Addr × Obj)} (N : News g L h l) (N' : News g L h l') : News g L h (l ++ l') := fun q hq => by
  rcases List.mem_append.mp hq with z | z
  · exact N q z
  · exact N' q z
set_option maxRecDepth 100000 in
set_option maxHeartbeats 8000000 in
theorem rs_nts_C
  {x0 x1 : Str} {u0 u1 t : Tok} {hd' : Addr} {o : Obj} {ps : Array Value}
  (B : Below A₀ base outer h₀) (F : Fr h₀ L s.heap m) (X : (Mine.hd.heap_39 w.params).In h₀) (N : News h₀ L s.heap ((237, tabObj ps) :: news)) (hm : (hd', o) ∈ news) (hcl : ∀ q ∈ news, q.2.cls ≠ .none) (hps : TriplesOk ps.toList) (ho : o.IsDictOf (PySem.intKind PySem.Challenge.rw_bq5007_01.row.prog w) [(5, .str x0 u0), (7, .str x1 u1)]) (lo : (hd' == sysModules) = false) (T : Top pt loose mean mg mb h₀) (XB : (Mine.hd.heap_39 w.params).In base) (TB : Top pt loose mean mg mb base) (D : KtsDicts (fr outer) h₀) (hk : cs.kind = .function) (hd : dp + 20 < recursionLimit) (hu : un + 500 < cLine) (hgd : gd = some [])
  (hx0 : Small x0) (hkind0 : Kind x0) (hx1 : Small x1) (hkind1 : Kind x1)
  (hret : ∀ r0 r1 xo dx d1 d2 dO1 dO2 k1 k2 ps' hm h' tk' G', rfFit x0 r0 → rfFit x1 r1 → dO1.IsDictOf (PySem.strKind PySem.Challenge.rw_bq5007_01.row.prog w) (rfKvs [5, 7] [r0, r1]) → dO2.IsDictOf (PySem.strKind PySem.Challenge.rw_bq5007_01.row.prog w) (fuKvs [5, 7] [r0, r1]) → Grew ps ps' → Retab s.heap hm ps' →
    SlotR (L :: fr outer) hm h' → News h₀ L h' ((xo, instObj 266 dx) :: (dx, ntD w.params k1 k2 d1 d2) :: (d1, dO1) :: (d2, dO2) :: (rfNews w.params r0 ++ rfNews w.params r1)) → GBare s.gens G' → (d1 == sysModules) = false → (d2 == sysModules) = false → Q (.ref xo) { s with heap := h', toks := tk', gens := G' })
  (hnone : (factor x0 = none ∨ factor x1 = none) → ∀ ps' hm h' tk' G', Grew ps ps' → Retab s.heap hm ps' → SlotR (L :: fr outer) hm h' → GBare s.gens G' → Q .none { s with heap := h', toks := tk', gens := G' }) :
  codeC (model PySem.Challenge.rw_bq5007_01.row.prog w) (ktrTop dp un gd cn cs L a ccd cl outer) (.call (.ref 42) ⟨[.ref 62, .str (Str.ofString "NetworkTopologyStrategy") t, .ref hd'], []⟩) (fun r s' => match r with | .ok (.ret v) => Q v s' | .ok _ => False | .error e => E e s') s := by
  subst hgd
  w_strict (
    w_top off
    have N2 := news_cons N (.tail _ hm)
    (refine' enter_C ?k1 ?k2 ?k3 ?k4 ?k5 ?kD ?kA ?kF ?kK ?k6 ?k7 ?k8 ?k9 ?kB ?_ ?c2 ?c3 ?c4 ?c5); (case kA => exact rfl); (case kF => exact rfl); (case kK => assumption); (case k1 => k_asm); (case k2 => k_asm); (case k3 => k_asm); (case k4 => exact N2); (case k5 => k_asm); (case kD => assumption); (case k6 => k_is); (case k7 => k_is); (case k8 => ktr_room); (case k9 => exact BindsTo.of_eq rfl); (case c5 => decide); (case kB => exact locs rfl); (case c2 => exact rfl); (case c3 => exact rfl); (case c4 => exact rfl); k_whole
    intro g L' h₁ hg F' N' B' X' T' D' hk₁ hL'
    (try dsimp only); (try k_lift B'); (try k_fold)
    refine A_cons ?_
    k_steps
    dsimp only
    refine A_cons ?_
    k_steps
    dsimp only
    refine A_cons ?_
    k_steps
    dsimp only
    refine A_cons ?_
    k_steps
    dsimp only
    refine C_cons (C_try ?_)
    refine C_last (C_assign_name (C_call_name ?_))
    k_steps
    · exact keepsOk_K (X'.keeps (Fr.keep (by assumption))) (by k_is)
    rename_i hdT l1T h3 F3 N3
    have hclT := dict_cls hdT
    obtain ⟨tb, oT, hclT, N3⟩ : ∃ tb oT, oT.cls = .type "dict" ∧ News g L' h3 ((tb, oT) :: (hd', o) :: (237, tabObj ps) :: news) := ⟨_, _, hclT, N3⟩
    clear hdT l1T
    have N4 : News g L' h3 ((237, tabObj ps) :: (tb, oT) :: (hd', o) :: news) := fun q hq => N3 q (by
      simp only [List.mem_cons] at hq ⊢
      rcases hq with h | h | h | h <;> simp only [h, true_or, or_true])
    have hcl2 : ∀ q ∈ (tb, oT) :: (hd', o) :: news, q.2.cls ≠ .none := fun q hq => by
      simp only [List.mem_cons] at hq
      rcases hq with rfl | rfl | hq
      · rw [hclT]; exact nofun
      · exact hcl _ hm
      · exact hcl _ hq
    subst hg
    have up := old_up (h2 := h3) (l := (hd', o) :: (237, tabObj ps) :: news) (fun p hp => (N2 p hp).1) F3 fun p hp => (N3 p (.tail _ hp)).1
    refine' nts_C B' F3 X' N4 (.tail _ (.head _)) hcl2 hps ho lo T' XB TB D' rfl ?hd ?hu rfl hx0 hkind0 hx1 hkind1 ?_ ?_
    case hd => ktr_room
    case hu => exact (show un + 3 + 400 < cLine from by omega)
    · intro r0 r1 xo dx d1 d2 dO1 dO2 k1 k2 ps2 hm1 h4 tk4 G4 f0 f1 hdO1 hdO2 gr R S4 N5 gb lo1 lo2
      have p237 := N4 _ (.head _)
      have Fm := R.fr F3 p237.2.2 (Ne.symm p237.2.1)
      obtain ⟨g4, T4, F4, N6, B4, D4⟩ := turn B' Fm (retab_news R N4 hcl2) D' S4
      have N7 := news_app (news_turn N5 T4) N6
      have X4 := XB.keeps B4.stays
      have TT4 := TB.keeps B4.stays
      simp only [rfNews, List.cons_append, List.nil_append] at N7
      clear N6 N4 N5 N3 Fm B' D' X' T'
      obtain ⟨hm0, R0⟩ := retab_ex (h := s.heap) (ps' := ps2) (N _ (.head _)).1
      k_steps
      dsimp only
      refine C_nil ?_
      dsimp only
      refine C_last (wpC_of ?_)
      k_steps
      rename_i h5 F5 N8
      refine hret r0 r1 xo dx d1 d2 dO1 dO2 k1 k2 ps2 hm0 h5 _ G4 f0 f1 hdO1 hdO2 gr R0 (exit_tab (news := news) (fun _ _ x => x) T4 F5 R0 (fun p hp => (N p (.tail _ hp)).1) (fun q hq => N8 q ?_) fun b hb => ?_) (news_out F N2 T4 fun q hq => N8 q ?_) gb lo1 lo2
      · rcases List.mem_cons.mp hq with h | h
        · rw [h]; simp
        · simp [h]
      · obtain ⟨p, hp, rfl⟩ := List.mem_map.mp hb
        simp only [List.mem_cons] at hp
        rcases hp with rfl | rfl | hp
        · exact .inr (.inl (List.mem_map_of_mem hm))
        · exact .inl rfl
        · exact .inr (.inl (List.mem_map_of_mem hp))
      · simp only [rfNews, List.cons_append, List.nil_append, List.mem_cons, List.not_mem_nil, or_false] at hq ⊢
        rcases hq with h | h | h | h | h | h | h | h <;> simp only [h, true_or, or_true]
    · intro hfac e ctx ps2 hm1 h4 tk4 G4 gr R U4 S4 gb
      have p237 := N4 _ (.head _)
      have Fm := R.fr F3 p237.2.2 (Ne.symm p237.2.1)
      have Nm := retab_news R N4 hcl2
      obtain ⟨hm0, R0⟩ := retab_ex (h := s.heap) (ps' := ps2) (N _ (.head _)).1
      dsimp only
      refine catch_as (T' := "Exception") rfl rfl rfl rfl B' Fm Nm D' U4 (.inr (.inl rfl)) S4 (by kts_sub) (by rfl) (by kts_sub) rfl ?_ ?_
      · intro g' s₂ Q' E' F₂ B₂ q
        have X₂ := XB.keeps B₂.stays
        have T₂ := TB.keeps B₂.stays
        k_steps
        exact q
      intro g₂ h₂ oe tk E' T₂ F₂ N₂ B₂ D₂
      have X₂ := XB.keeps B₂.stays
      have TT₂ := TB.keeps B₂.stays
      clear B' D' X' T' F3 N3 Fm Nm N4
      k_steps
      rename_i h5 v5 F5 N6
      refine hnone hfac ps2 hm0 h5 _ G4 gr R0 (exit_tab (news := news) (fun _ _ x => x) T₂ F5 R0 (fun p hp => (N p (.tail _ hp)).1) (fun q hq => N6 q ?_) fun b hb => ?_) gb
      · rcases List.mem_cons.mp hq with h | h
        · rw [h]; simp
        · simp [h]
      · obtain ⟨p, hp, rfl⟩ := List.mem_map.mp hb
        simp only [List.mem_cons] at hp
        rcases hp with rfl | rfl | hp
        · exact .inr (.inl (List.mem_map_of_mem hm))
        · exact .inl rfl
        · exact .inr (.inl (List.mem_map_of_mem hp)))
end
end Mine
end PartE15

section PartC22
open PySem PySem.W PyProof.Rows PySem.Calls PySem.Spec
set_option linter.all false
set_option maxRecDepth 100000
set_option maxHeartbeats 1000000
namespace Mine
section
variable {prog : Program} {w : World} {A : Around} {E : Value → Shared → Prop} {s : Shared} {env : Env} {R : Result → Shared → Prop}
theorem codeC_for {target : Expr} {it : Value} {body : List Stmt} (K : Nat → Shared → Prop)
    (turn : ∀ n s, K n s → wpAny (model prog w) A (pyNext it) (fun r s₁ => match r with
      | none => R (.ok .next) s₁
      | some v => wpAny (model prog w) A (letOwnedTupleGo target it v) (fun _ s₁' => wpAny (model prog w) A (assign target env v) (fun _ s₂ => wpC (model prog w) A (execs body env) (fun f s₃ => match f with
            | .next | .cont => ∃ m, m < n ∧ K m s₃
            | .brk => R (.ok .next) s₃
            | .ret v => R (.ok (.ret v)) s₃) (fun _ _ => False) s₂) (fun _ _ => False) s₁') (fun _ _ => False) s₁) (fun _ _ => False) s)
    (n : Nat) (h : K n s) : codeC (model prog w) A (.forLoop target it body [] env) R s := by
  induction n using Nat.strongRecOn generalizing s with
  | ind n ih =>
    refine codeC_of_tree ?_
    show wpC _ A ((forTurn target it body [] env).onRaise (fun x => do noteFrame x env; theTreesLotGoes x)) _ _ s
    refine wpC_onRaise ?_
    simp only [forTurn]
    refine wpC_bind (wpC_standAt (wpC_bind (wpC_of (wpAny_onRaise (wpAny_mono (turn n s h) (fun r s₁ h₁ => ?_) fun _ _ z => z.elim)))))
    cases r with
    | none =>
      refine wpC_pure (And.intro rfl (codeC_of (codeAny_block ?_)))
      exact wpAny_pure h₁
    | some v =>
      refine wpC_cut (wpAny_mono h₁ (fun _ s₁' h₁' => ?_) fun _ _ z => z.elim)
      refine wpC_cut (wpAny_mono h₁' (fun _ s₂ h₂ => ?_) fun _ _ z => z.elim)
      refine wpC_bind (wpC_mono h₂ (fun f s₃ h₃ => ?_) fun _ _ z => z.elim)
      cases f with
      | next => obtain ⟨m, hm, hk⟩ := h₃; exact wpC_pure (And.intro rfl (ih m hm hk))
      | cont => obtain ⟨m, hm, hk⟩ := h₃; exact wpC_pure (And.intro rfl (ih m hm hk))
      | brk => exact wpC_pure h₃
      | ret v => exact wpC_pure h₃
theorem C_for {target iter : Expr} {body : List Stmt} {pos : Pos} {Q : Flow → Shared → Prop}
    (h : wpAny (model prog w) A (eval iter env) (fun x s₁ => wpAny (model prog w) A (pyIter x) (fun it s₂ => ∃ (K : Nat → Shared → Prop) (n : Nat), K n s₂ ∧ ∀ n s, K n s → wpAny (model prog w) A (pyNext it) (fun r s₁ => match r with
      | none => Q .next s₁
      | some v => wpAny (model prog w) A (letOwnedTupleGo target it v) (fun _ s₁' => wpAny (model prog w) A (assign target env v) (fun _ s₂ => wpC (model prog w) A (execs body env) (fun f s₃ => match f with
            | .next | .cont => ∃ m, m < n ∧ K m s₃
            | .brk => Q .next s₃
            | .ret v => Q (.ret v) s₃) (fun _ _ => False) s₂) (fun _ _ => False) s₁') (fun _ _ => False) s₁) (fun _ _ => False) s) E s₁) E s)
    (hs : ∀ x, foldedSetIterable iter env x = pure x := by intro _; rfl) :
    wpC (model prog w) A (exec (.For target iter body [] pos) env) Q E s := by
  rw [arm_exec_For]
  refine wpC_bind (wpC_standAt (wpC_cut (wpAny_mono h (fun x s₁ h₁ => ?_) fun _ _ z => z)))
  rw [hs, pure_bind]
  refine wpC_bind (wpC_standAt (wpC_bind (wpC_holding (wpC_of (wpAny_mono h₁ (fun it s₂ h₂ => ?_) fun _ _ z => z)))))
  obtain ⟨K, n, hk, turn⟩ := h₂
  refine wpC_runOwn (h := none) (codeC_mono (codeC_for (R := fun r s' => match r with | .ok f => Q f s' | .error e => False) K turn n hk) fun r s' z => ?_)
  cases r with
  | ok f => exact z
  | error e => exact z.elim
theorem C_if_C {test : Expr} {body orelse : List Stmt} {pos : Pos} {Q : Flow → Shared → Prop}
    (h : wpC (model prog w) A (isTrue test env (eval test env)) (fun b s₁ => if b = true then wpC (model prog w) A (execs body env) Q E s₁ else wpC (model prog w) A (execs orelse env) Q E s₁) E s) : wpC (model prog w) A (exec (.If test body orelse pos) env) Q E s := by
  rw [arm_exec_If]
  refine wpC_bind (wpC_standAt (wpC_bind (wpC_mono h (fun b s₁ h₁ => ?_) fun _ _ x => x)))
  cases b with
  | true => exact h₁
  | false => exact h₁
theorem C_isTrue_Compare1 {l r : Expr} {op : CmpOp} {pos : Pos} {whole : Sem Value} {Q : Bool → Shared → Prop}
    (h : wpC (model prog w) A (eval l env) (fun a s₁ => wpAny (model prog w) A (eval r env) (fun b s₂ => wpAny (model prog w) A (compareOp op a b) (fun c s₃ => wpAny (model prog w) A (truthy c) Q E s₃) E s₂) E s₁) E s)
    (hm : behindInMarks op r = false := by with_unfolding_all rfl) : wpC (model prog w) A (isTrue (.Compare l [op] [r] pos) env whole) Q E s := fun Γ p hΓ hU => by
  simp only [isTrue_Compare1, markedBehindIn_of_false hm, Sem.wp_bind', Sem.wp_holding, Sem.wp_cmd_standAt, Sem.wp_operate]
  exact Sem.wp_mono _ Γ _ (fun a p₁ s₁ h₁ => Sem.wp_mono _ Γ _ (fun b _ s₂ h₂ => Sem.wp_mono _ Γ _ (fun c p₃ s₃ h₃ => h₃ Γ p₃ hΓ)
    (fun _ _ _ h' => h') _ _ (h₂ Γ _ hΓ)) (fun _ _ _ h' => h') _ _ (h₁ Γ p₁ hΓ)) (fun _ _ _ h' => h') _ _ (h Γ p hΓ hU)
theorem C_if {test : Expr} {body orelse : List Stmt} {pos : Pos} {Q : Flow → Shared → Prop}
    (h : wpAny (model prog w) A (isTrue test env (eval test env)) (fun b s₁ => if b = true then wpC (model prog w) A (execs body env) Q E s₁ else wpC (model prog w) A (execs orelse env) Q E s₁) E s) : wpC (model prog w) A (exec (.If test body orelse pos) env) Q E s := by
  rw [arm_exec_If]
  refine wpC_bind (wpC_standAt (wpC_cut (wpAny_mono h (fun b s₁ h₁ => ?_) fun _ _ x => x)))
  cases b with
  | true => exact h₁
  | false => exact h₁
theorem C_expr_raises {e : Expr} {pos : Pos} {Q : Flow → Shared → Prop} (h : wpC (model prog w) A (eval e env) (fun _ _ => False) E s)
    (hi : interactive env = false := by rfl) (hs : swapsWith e none pos.line env = pure false := by rfl) : wpC (model prog w) A (exec (.Expr e pos) env) Q E s := by
  rw [exec_Expr env e pos hi hs]
  exact wpC_bind (wpC_standAt (wpC_bind (wpC_mono h (fun _ _ h' => h'.elim) fun _ _ x => x)))
end
section
variable {prog : Program} {w : World} {A : Around} {E : Value → Shared → Prop} {s : Shared} {env : Env} {L : Addr}
def TurnPost (J : Heap → (Str → Option Value) → List (Addr × Obj) → Prop) (L I : Addr) (oI : Obj) (s : Shared) (Q : Flow → Shared → Prop) (f : Flow) (s' : Shared) : Prop := match f with
  | .next | .cont => ∃ g' m' led' h' tk', s' = { s with heap := h', toks := tk' } ∧ Fr g' L h' m' ∧ News g' L h' ((I, oI) :: led') ∧ (∀ p ∈ led', p.1 ≠ I) ∧ J g' m' led'
  | .brk => False
  | .ret v => Q (.ret v) s'
theorem C_for_range {x : Str} {px pos : Pos} {iter : Expr} {body : List Stmt} {n : Nat} {J : Nat → Heap → (Str → Option Value) → List (Addr × Obj) → Prop} {Q : Flow → Shared → Prop} {g : Heap} {m : Str → Option Value} {led : List (Addr × Obj)}
    (hA : A.handled = none) (hloc : env.locals = L) (hx : env.kindOf x = some .local) (hp : (env.scope.kind == .class || (env.scope.kind == .module && env.locals != env.globals)) = false)
    (h : wpAny (model prog w) A (eval iter env) (fun v s₁ => ∃ r t u v' h' tk', s₁ = { s with heap := h', toks := tk' } ∧ v = .ref r ∧ IsRange h' r 0 n 1 t u v' ∧ Fr g L h' m ∧ News g L h' led) E s)
    (hsm : Builtin.Range.small 0 n 1 = true) (hn : Builtin.Range.rangeSize 0 n 1 = ((n : Nat) : Int)) (j0 : J 0 g m led)
    (turn : ∀ i g m led I oI h tk t, i < n → oI.cls = .type "range_iterator" → J i g m led → Fr g L h (fun y => if y = x then some (.int (i : Int) t) else m y) → News g L h ((I, oI) :: led) → (∀ p ∈ led, p.1 ≠ I) →
      wpC (model prog w) A (execs body env) (TurnPost (J (i + 1)) L I oI s Q) (fun _ _ => False) { s with heap := h, toks := tk })
    (done : ∀ g m led h tk, J n g m led → Fr g L h m → News g L h led → Q .next { s with heap := h, toks := tk })
    (hs : ∀ x, foldedSetIterable iter env x = pure x := by intro _; rfl) :
    wpC (model prog w) A (exec (.For (.Name x px) iter body [] pos) env) Q E s := by
  refine C_for (wpAny_mono h (fun v s₁ hv => ?_) fun _ _ z => z) hs
  obtain ⟨r, t, u, v', h', tk', rfl, rfl, hr, F, N⟩ := hv
  refine wpAny_pyIter_range hr hsm ?_
  have W := LCg.range_walks (prog := prog) (w := w) (I := h'.objs.size) hA 0 n
  have hIL : h'.objs.size ≠ L := Nat.ne_of_gt F.ns.lt
  have hI₀ : g.get? h'.objs.size = none := next_is_new F
  refine ⟨fun k s' => ∃ i g m led oI h tk, s' = { s with heap := h, toks := tk } ∧ i ≤ n ∧ k = n + 1 - i ∧ IsRangeIter h h'.objs.size (0 + (i : Nat) * 1) ((n : Int) - (i : Nat)) 1 ∧ Fr g L h m ∧ News g L h ((h'.objs.size, oI) :: led) ∧ (∀ p ∈ led, p.1 ≠ h'.objs.size) ∧ J i g m led, n + 1, ⟨0, g, m, led, { cls := .type "range_iterator", data := .fields #[rawInt 0, rawInt (Builtin.Range.rangeSize 0 n 1), rawInt 1] }, _, _, rfl, Nat.zero_le _, rfl, ?_, F.keeps fun _ _ e => Heap.get?_push_of_some _ e, fun p hp => ?_, fun p hp => Nat.ne_of_lt (Heap.lt_size (N p hp).1), j0⟩, ?_⟩
  · show IsRangeIter _ _ _ _ _
    rw [hn]
    simpa using Heap.get?_push_size _ rfl
  · rcases List.mem_cons.mp hp with rfl | hp
    · exact ⟨Heap.get?_push_size _ rfl, hIL, hI₀⟩
    · exact ⟨Heap.get?_push_of_some _ (N p hp).1, (N p hp).2⟩
  · rintro k s' ⟨i, g, m, led, oI, h1, tk1, rfl, hi, rfl, hit, F, N, off, j⟩
    by_cases hlt : i < n
    · refine W.item i _ _ _ hlt hit fun v h2 tk2 hPv hit2 hk2 => ?_
      obtain ⟨t2, rfl⟩ := hPv
      refine wpAny_of_eq (a := ()) rfl ?_
      have up : ∀ b o, b ≠ h'.objs.size → h1.get? b = some o → h2.get? b = some o := fun b o nb e => hk2 b o (by simpa using nb) e
      have nI := (N _ (.head _)).2
      have F2 : Fr g L h2 m := ⟨F.ns.at' fun o e => up L o (Ne.symm nI.1) e, fun b o e => up b o (fun z => by rw [z, nI.2] at e; cases e) (F.keep b o e), F.above⟩
      have N2 : News g L h2 ((h'.objs.size, { cls := .type "range_iterator", data := .fields #[rawInt (0 + ((i + 1 : Nat) : Int) * 1), rawInt ((n : Int) - ((i + 1 : Nat) : Int)), rawInt 1] }) :: led) := fun p hp => by
        rcases List.mem_cons.mp hp with rfl | hp
        · exact ⟨hit2, nI⟩
        · exact ⟨up _ _ (off p hp) (N p (.tail _ hp)).1, (N p (.tail _ hp)).2⟩
      subst hloc
      refine wpAny_assign_Name (wpAny_storeName_local hx F2.ns (fun h3 hn3 hs3 => ?_) hp)
      have F3 := F2.set hn3 hs3
      have N3 : News g env.locals h3 _ := fun p hp => ⟨(hs3.2 _ (N2 p hp).2.1).trans (N2 p hp).1, (N2 p hp).2⟩
      refine wpC_mono (turn i g m led h'.objs.size _ h3 _ t2 hlt rfl j (by simpa using F3) N3 off) (fun f s₃ hf => ?_) fun _ _ z => z
      have nx : TurnPost (J (i + 1)) env.locals h'.objs.size { cls := .type "range_iterator", data := .fields #[rawInt (0 + ((i + 1 : Nat) : Int) * 1), rawInt ((n : Int) - ((i + 1 : Nat) : Int)), rawInt 1] } s Q .next s₃ → ∃ m_1, m_1 < n + 1 - i ∧ ∃ i g m led oI h tk, s₃ = { s with heap := h, toks := tk } ∧ i ≤ n ∧ m_1 = n + 1 - i ∧ IsRangeIter h h'.objs.size (0 + (i : Nat) * 1) ((n : Int) - (i : Nat)) 1 ∧ Fr g env.locals h m ∧ News g env.locals h ((h'.objs.size, oI) :: led) ∧ (∀ p ∈ led, p.1 ≠ h'.objs.size) ∧ J i g m led := by
        rintro ⟨g', m', led', h4, tk4, rfl, F4, N4, off4, j4⟩
        exact ⟨n + 1 - (i + 1), by omega, i + 1, g', m', led', _, h4, tk4, rfl, hlt, rfl, (N4 _ (.head _)).1, F4, N4, off4, j4⟩
      cases f with
      | next => exact nx hf
      | cont => exact nx hf
      | brk => exact hf.elim
      | ret v => exact hf
    · obtain rfl : i = n := Nat.le_antisymm hi (Nat.not_lt.mp hlt)
      refine W.done _ _ _ hit fun h2 tk2 hk2 => ?_
      have up : ∀ b o, b ≠ h'.objs.size → h1.get? b = some o → h2.get? b = some o := fun b o nb e => hk2 b o (by simpa using nb) e
      have nI := (N _ (.head _)).2
      exact done g m led h2 tk2 j ⟨F.ns.at' fun o e => up L o (Ne.symm nI.1) e, fun b o e => up b o (fun z => by rw [z, nI.2] at e; cases e) (F.keep b o e), F.above⟩ fun p hp => ⟨up _ _ (off p hp) (N p (.tail _ hp)).1, (N p (.tail _ hp)).2⟩
theorem C_for_pairs {xa xb : Str} {pa pb tp pos : Pos} {kk : Nat} {iter : Expr} {body : List Stmt} {ax : Addr} {its : Array Value} {J : Nat → Heap → (Str → Option Value) → List (Addr × Obj) → Prop} {Q : Flow → Shared → Prop} {g : Heap} {m : Str → Option Value} {led : List (Addr × Obj)}
    (hA : A.handled = none) (hloc : env.locals = L) (ha : env.kindOf xa = some .local) (hb : env.kindOf xb = some .local) (hp : (env.scope.kind == .class || (env.scope.kind == .module && env.locals != env.globals)) = false)
    (h : wpAny (model prog w) A (eval iter env) (fun v s₁ => ∃ h' tk', s₁ = { s with heap := h', toks := tk' } ∧ v = .ref ax ∧ Fr g L h' m ∧ News g L h' led) E s)
    (j0 : J 0 g m led)
    (hax : ∀ i g m led, J i g m led → ∃ oa n', (ax, oa) ∈ led ∧ oa.cls = .type "list" ∧ oa.data = .seq its n')
    (hit : ∀ i v g m led, its[i]? = some v → J i g m led → ∃ T oT a b n', v = .ref T ∧ (T, oT) ∈ led ∧ oT.cls = .type "tuple" ∧ oT.data = .seq #[a, b] n')
    (turn : ∀ i g m led I oI h tk T oT a b n', oI.cls = .type "list_iterator" → its[i]? = some (.ref T) → (T, oT) ∈ led → oT.data = .seq #[a, b] n' → J i g m led → Fr g L h (fun y => if y = xb then some b else if y = xa then some a else m y) → News g L h ((I, oI) :: led) → (∀ p ∈ led, p.1 ≠ I) →
      wpC (model prog w) A (execs body env) (TurnPost (J (i + 1)) L I oI s Q) (fun _ _ => False) { s with heap := h, toks := tk })
    (done : ∀ g m led h tk, J its.size g m led → Fr g L h m → News g L h led → Q .next { s with heap := h, toks := tk })
    (hs : ∀ x, foldedSetIterable iter env x = pure x := by intro _; rfl) :
    wpC (model prog w) A (exec (.For (.Tuple [.Name xa pa, .Name xb pb] kk tp) iter body [] pos) env) Q E s := by
  refine C_for (wpAny_mono h (fun v s₁ hv => ?_) fun _ _ z => z) hs
  obtain ⟨h', tk', rfl, rfl, F, N⟩ := hv
  obtain ⟨oa, n', hma, hca, hda⟩ := hax 0 g m led j0
  have hls : h'.IsList ax its := ⟨oa, (N _ hma).1, hca, n', hda⟩
  have hne : ax ≠ h'.objs.size := Nat.ne_of_lt (Heap.lt_size (N _ hma).1)
  refine wpAny_pyIter_list hls ?_
  have W := Walks.list (prog := prog) (w := w) hA h'.objs.size ax hne its
  have hIL : h'.objs.size ≠ L := Nat.ne_of_gt F.ns.lt
  have hI₀ : g.get? h'.objs.size = none := next_is_new F
  refine ⟨fun k s' => ∃ i g m led oI h tk, s' = { s with heap := h, toks := tk } ∧ i ≤ its.size ∧ k = its.size + 1 - i ∧ (h.IsListIter h'.objs.size ax i ∧ h.IsList ax its) ∧ Fr g L h m ∧ News g L h ((h'.objs.size, oI) :: led) ∧ (∀ p ∈ led, p.1 ≠ h'.objs.size) ∧ J i g m led, its.size + 1,
    ⟨0, g, m, led, { cls := .type "list_iterator", data := .fields #[.ref ax, .int 0 0] }, _, _, rfl, Nat.zero_le _, rfl, ⟨⟨_, Heap.get?_push_size _ rfl, rfl, rfl⟩, hls.push _⟩, F.keeps fun _ _ e => Heap.get?_push_of_some _ e, fun p hp => ?_, fun p hp => Nat.ne_of_lt (Heap.lt_size (N p hp).1), j0⟩, ?_⟩
  · rcases List.mem_cons.mp hp with rfl | hp
    · exact ⟨Heap.get?_push_size _ rfl, hIL, hI₀⟩
    · exact ⟨Heap.get?_push_of_some _ (N p hp).1, (N p hp).2⟩
  · rintro k s' ⟨i, g, m, led, oI, h1, tk1, rfl, hi, rfl, hst, F, N, off, j⟩
    by_cases hlt : i < its.size
    · refine W.item i _ _ _ hlt hst fun v h2 tk2 hPv hst2 hk2 => ?_
      obtain ⟨T, oT, a, b, nT, rfl, hmT, hcT, hdT⟩ := hit i v g m led hPv j
      have up : ∀ b o, b ≠ h'.objs.size → h1.get? b = some o → h2.get? b = some o := fun b o nb e => hk2 b o (by simpa using nb) e
      have nI := (N _ (.head _)).2
      have F2 : Fr g L h2 m := ⟨F.ns.at' fun o e => up L o (Ne.symm nI.1) e, fun b o e => up b o (fun z => by rw [z, nI.2] at e; cases e) (F.keep b o e), F.above⟩
      obtain ⟨oI2, heI2, hcI2⟩ : ∃ oI2, h2.get? h'.objs.size = some oI2 ∧ oI2.cls = .type "list_iterator" := by obtain ⟨o, e, c, _⟩ := hst2.1; exact ⟨o, e, c⟩
      have N2 : News g L h2 ((h'.objs.size, oI2) :: led) := fun p hp => by
        rcases List.mem_cons.mp hp with rfl | hp
        · exact ⟨heI2, nI⟩
        · exact ⟨up _ _ (off p hp) (N p (.tail _ hp)).1, (N p (.tail _ hp)).2⟩
      subst hloc
      refine wpAny_letOwnedTupleGo_listiter hst2.1 ?_
      refine kcp_assign hA ⟨oT, (N2 _ (.tail _ hmT)).1, hcT, nT, hdT⟩ ha hb hp F2.ns fun h3 tk3 hn3 k3 => ?_
      have F3 : Fr g env.locals h3 _ := ⟨hn3, fun b o e => k3 b o (fun z => by rw [z, kts_self F2] at e; cases e) (F2.keep b o e), F2.above⟩
      have N3 : News g env.locals h3 _ := fun p hp => ⟨k3 _ _ (N2 p hp).2.1 (N2 p hp).1, (N2 p hp).2⟩
      refine wpC_mono (turn i g m led h'.objs.size oI2 h3 _ T oT a b nT hcI2 hPv hmT hdT j F3 N3 off) (fun f s₃ hf => ?_) fun _ _ z => z
      have nx : TurnPost (J (i + 1)) env.locals h'.objs.size oI2 s Q .next s₃ → ∃ m_1, m_1 < its.size + 1 - i ∧ ∃ i g m led oI h tk, s₃ = { s with heap := h, toks := tk } ∧ i ≤ its.size ∧ m_1 = its.size + 1 - i ∧ (h.IsListIter h'.objs.size ax i ∧ h.IsList ax its) ∧ Fr g env.locals h m ∧ News g env.locals h ((h'.objs.size, oI) :: led) ∧ (∀ p ∈ led, p.1 ≠ h'.objs.size) ∧ J i g m led := by
        rintro ⟨g', m', led', h4, tk4, rfl, F4, N4, off4, j4⟩
        obtain ⟨oa4, n4, hma4, hca4, hda4⟩ := hax (i + 1) g' m' led' j4
        refine ⟨its.size + 1 - (i + 1), by omega, i + 1, g', m', led', oI2, h4, tk4, rfl, hlt, rfl, ⟨?_, ⟨oa4, (N4 _ (.tail _ hma4)).1, hca4, n4, hda4⟩⟩, F4, N4, off4, j4⟩
        obtain ⟨o, e, r⟩ := hst2.1
        rw [heI2] at e; cases e
        exact ⟨oI2, (N4 _ (.head _)).1, r⟩
      cases f with
      | next => exact nx hf
      | cont => exact nx hf
      | brk => exact hf.elim
      | ret v => exact hf
    · obtain rfl : i = its.size := Nat.le_antisymm hi (Nat.not_lt.mp hlt)
      refine W.done _ _ _ hst fun h2 tk2 hk2 => ?_
      have up : ∀ b o, b ≠ h'.objs.size → h1.get? b = some o → h2.get? b = some o := fun b o nb e => hk2 b o (by simpa using nb) e
      have nI := (N _ (.head _)).2
      exact done g m led h2 tk2 j ⟨F.ns.at' fun o e => up L o (Ne.symm nI.1) e, fun b o e => up b o (fun z => by rw [z, nI.2] at e; cases e) (F.keep b o e), F.above⟩ fun p hp => ⟨up _ _ (off p hp) (N p (.tail _ hp)).1, (N p (.tail _ hp)).2⟩
end
end Mine
end PartC22

section PartF2a
open PySem PySem.W PyProof.Rows PySem.Calls PySem.Spec
set_option linter.all false
set_option maxRecDepth 100000
namespace Mine
noncomputable def lawO (P : Params) : Option Obj := (Mine.hd.heap_39 P).lookup 356
noncomputable def lawScope (P : Params) : Scope := match lawO P with
  | some ⟨_, _, .func fd, _⟩ => fd.scope
  | _ => { kind := .function, names := [], isGenerator := false, isCoroutine := false }
noncomputable def lawBody (P : Params) : List Stmt := match lawO P with
  | some ⟨_, _, .func fd, _⟩ => (match fd.body with
    | .stmts b => b
    | _ => [])
  | _ => []
noncomputable abbrev lawEnv (P : Params) (L : Addr) : Env := envX (Str.ofString "law") (lawScope P) L 356 (.ref 355) [(Str.ofString "script", L + 1)]
section
variable {prog : Program} {w : World} {A : Around} {R : Result → Shared → Prop} {s : Shared} {K : Frag} {name qual : Str} {params : Arguments} {body : List Stmt} {scope : Scope} {dV kV doc pm cdv ct oc : Value} {an od : Option Addr} {osl : Array (Option Value)} {f : Addr} {args : Args} {binds : List (Str × Value)}
theorem enter_cells (X : K.In s.heap) (hlim : s.heap.NoLimit) (ho : K.lookup f = some ⟨oc, od, .func (fnOf name qual params body scope dV kV doc pm an cdv ct), osl⟩) (hcd : codeIn K cdv qual = true) (hroom : A.depth < recursionLimit)
    (hbind : BindsTo s (fnOf name qual params body scope dV kV doc pm an cdv ct) args binds)
    (hkind : ∀ n, ∀ x ∈ binds, scope.names.lookup x.1 = some .local ∨ (scope.names.lookup x.1 = some .cell ∧ ((cellsFrom n scope.names []).lookup x.1).isSome = true))
    (hnd : ((cellsFrom 0 scope.names []).map (·.1)).Nodup)
    (h : ∀ L' h₁ tk cells, L' = s.heap.objs.size → Fr s.heap L' h₁ (bindL (envOfC qual scope L' f cdv).kindOf binds fun _ => none) → News s.heap L' h₁ cells →
      CellsAre (bindC (envOfC qual scope L' f cdv).kindOf binds fun _ => none) (cellsFrom (L' + 1) scope.names []) cells →
      wpC (model prog w) (A.deeper (envOfC qual scope L' f cdv)) (execs body (envOfC qual scope L' f cdv))
        (fun fl s' => R (.ok (.ret (match fl with | .ret v => v | _ => .none))) s')
        (fun e s' => wpAny (model prog w) (A.deeper (envOfC qual scope L' f cdv)) (leaving (envOfC qual scope L' f cdv) e) (fun _ s'' => R (.error e) s'') (fun e' s'' => R (.error e') s'') s')
        { s with heap := h₁, toks := tk })
    (hco : scope.isCoroutine = false := by rfl) (hgen : scope.isGenerator = false := by rfl) (hk : scope.kind = .function := by rfl) : codeC (model prog w) A (.call (.ref f) args) R s := by
  refine codeC_call_function hroom (X _ _ ho) rfl hco hgen rfl (codeRec_of X hcd) (hbind _ _ _ _ ?_)
  refine wpAny_newFunctionEnv_cells hk (hkind _) fun env' he s' x => ?_
  subst he
  refine ⟨hlim.keeps x.toInCall.keep, codeC_func ?_⟩
  obtain ⟨h₁, tk, rfl, _⟩ := x.done
  have hk₁ := x.toInCall.keep
  obtain ⟨cells, NC, Y⟩ := Cl.news (h₀ := s.heap) (Nat.le_refl _) fun n c hm => ⟨x.cell n c (lookup_of_mem_nodup (cellsFrom_names scope.names 0 (s.heap.objs.size + 1) [] [] rfl ▸ hnd) hm), x.above n c hm⟩
  exact h s.heap.objs.size h₁ tk cells rfl ⟨x.toInCall.ns, hk₁, Nat.le_refl _⟩ NC Y
end
section
variable {pt : Program} {w : World} {mean : ExcName → Option Value} {mg mb : Str → Option Value} {s₁ : Shared} {Q : Value → Shared → Prop} {loose : List Str} {l : Addr} {vals : List Value} {ns : List Int}
def LawEnd (s₁ s' : Shared) : Prop := OldK s₁.heap s'.heap ∧ s'.os = s₁.os ∧ AllBare s'.gens
local macro_rules | `(tactic| ke_room) => `(tactic| ktr_units)
local macro_rules | `(tactic| k_units) => `(tactic| ktr_units)
local macro_rules | `(tactic| k_room) => `(tactic| ktr_room)
local macro_rules | `(tactic| walk_at "StrBack") => `(tactic| (k_dflt (dsimp only [StrBack]); (try k_fold)))
local macro_rules | `(tactic| walk_at "CmpBack") => `(tactic| (k_dflt (dsimp only [CmpBack]); (try k_fold)))
end
end Mine
end PartF2a

local macro_rules | `(tactic| walk_at "no key") => `(tactic| fail)
local macro_rules | `(tactic| walk_at "no key") => `(tactic| fail)
local macro_rules | `(tactic| walk_at "no key") => `(tactic| fail)
section PartF3
open PySem PySem.W PyProof.Rows PySem.Calls PySem.Spec
set_option linter.all false
set_option maxRecDepth 100000
namespace Mine
section
variable {pt : Program} {w : World} {mean : ExcName → Option Value} {mg mb : Str → Option Value} {dp un : Nat} {cl : List (Str × Addr)} {A₀ : Around} {base g : Heap} {L : Addr} {m : Str → Option Value} {s : Shared} {Q : Flow → Shared → Prop} {E : Value → Shared → Prop} {loose : List Str}
local macro_rules | `(tactic| ke_room) => `(tactic| ktr_units)
local macro_rules | `(tactic| k_units) => `(tactic| ktr_units)
local macro_rules | `(tactic| k_room) => `(tactic| ktr_room)
local macro_rules | `(tactic| walk_at "StrBack") => `(tactic| (k_dflt (dsimp only [StrBack]); (try k_fold)))
local macro_rules | `(tactic| walk_at "CmpBack") => `(tactic| (k_dflt (dsimp only [CmpBack]); (try k_fold)))
local macro_rules | `(tactic| walk_at "CompSrc") => `(tactic| (k_here; k_dflt (refine LCg.CompSrc.ledger (by rfl) (by k_asm) (by k_asm) (by k_mem) (by first | size_fits | exact Nat.le_of_ble_eq_true rfl) ?_; intro g'; lcg_lit)))
local macro_rules | `(tactic| walk_at "call ref") => `(tactic| (k_here; (with_reducible show wpAny _ _ (call (Value.ref 344) [Value.int _ _]) _ _ _); k_dflt (refine' drawn_call ?k1 ?k2 ?k3 ?k4 ?k5 ?kK ?kd ?ku ?_; (case k1 => k_asm); (case k2 => k_asm); (case k3 => k_asm); (case k4 => k_asm); (case k5 => k_asm); (case kK => exact rfl); (case kd => ktr_room); (case ku => ktr_units); intro t' h' tk' F' N')))
set_option maxHeartbeats 8000000 in
theorem partB {nl : Addr} {n0 n1 n2 n3 n4 : Int} {t0 t1 t2 t3 t4 : Tok} {ps : Array Value}
  (B : Below A₀ base [] g) (XB : (Mine.hd.heap_39 w.params).In base) (TB : Top pt loose mean mg mb base) (hd : dp + 60 < recursionLimit) (hu : un + 1000 < cLine)
  (F : Fr g L s.heap (fun y => if y = Str.ofString "numbers" then some (.ref nl) else m y)) (N : News g L s.heap [(nl, LCg.lst [.int n0 t0, .int n1 t1, .int n2 t2, .int n3 t3, .int n4 t4]), (237, tabObj ps)])
  (next : ∀ tl u0 u1 u2 u3 h' tk', Fr g L h' (fun y => if y = Str.ofString "texts" then some (.ref tl) else if y = Str.ofString "numbers" then some (.ref nl) else m y) → News g L h' [(tl, LCg.lst [.str (drawn n0) u0, .str (drawn n1) u1, .str (drawn n2) u2, .str (drawn n3) u3]), (nl, LCg.lst [.int n0 t0, .int n1 t1, .int n2 t2, .int n3 t3, .int n4 t4]), (237, tabObj ps)] →
    wpC (model PySem.Challenge.rw_bq5007_01.row.prog w) (ktrTop dp un (some []) (Str.ofString "law") (lawScope w.params) L 356 (.ref 355) cl []) (execs ((lawBody w.params).drop 2) (envX (Str.ofString "law") (lawScope w.params) L 356 (.ref 355) cl)) Q E { s with heap := h', toks := tk' }) :
  wpC (model PySem.Challenge.rw_bq5007_01.row.prog w) (ktrTop dp un (some []) (Str.ofString "law") (lawScope w.params) L 356 (.ref 355) cl []) (execs ((lawBody w.params).drop 1) (envX (Str.ofString "law") (lawScope w.params) L 356 (.ref 355) cl)) Q E s := by
  conv in List.drop _ _ => whnf
  conv in (occs := *) lawScope _ => all_goals whnf
  have X := XB.keeps B.stays
  have T := TB.keeps B.stays
  w_strict (
    w_top off
    refine A_cons ?_
    k_steps
    rename_i tl hB kB FB NB oB
    exact next tl _ _ _ _ hB kB FB fun q hq => NB q (by
      simp only [List.mem_cons, List.not_mem_nil, or_false] at hq ⊢
      rcases hq with h | h | h
      · exact .inl h
      · exact .inr (.inr (.inl h))
      · exact .inr (.inr (.inr h))))
end
end Mine
end PartF3

local macro_rules | `(tactic| walk_at "no key") => `(tactic| fail)
local macro_rules | `(tactic| walk_at "no key") => `(tactic| fail)
local macro_rules | `(tactic| walk_at "no key") => `(tactic| fail)
local macro_rules | `(tactic| walk_at "no key") => `(tactic| fail)
local macro_rules | `(tactic| walk_at "no key") => `(tactic| fail)
section PartF4
open PySem PySem.W PyProof.Rows PySem.Calls PySem.Spec
set_option linter.all false
set_option maxRecDepth 100000
namespace Mine
section
variable {pt : Program} {w : World} {mean : ExcName → Option Value} {mg mb : Str → Option Value} {dp un : Nat} {cl : List (Str × Addr)} {A₀ : Around} {base g : Heap} {L : Addr} {m : Str → Option Value} {s : Shared} {Q : Flow → Shared → Prop} {E : Value → Shared → Prop} {loose : List Str}
local macro_rules | `(tactic| ke_room) => `(tactic| ktr_units)
local macro_rules | `(tactic| k_units) => `(tactic| ktr_units)
local macro_rules | `(tactic| k_room) => `(tactic| ktr_room)
local macro_rules | `(tactic| walk_at "StrBack") => `(tactic| (k_dflt (dsimp only [StrBack]); (try k_fold)))
local macro_rules | `(tactic| walk_at "CmpBack") => `(tactic| (k_dflt (dsimp only [CmpBack]); (try k_fold)))
local macro_rules | `(tactic| walk_at "call ref") => `(tactic| (k_here; (with_reducible show wpAny _ _ (call (Value.ref 344) [Value.int _ _]) _ _ _); k_dflt (refine' drawn_call ?k1 ?k2 ?k3 ?k4 ?k5 ?kK ?kd ?ku ?_; (case k1 => k_asm); (case k2 => k_asm); (case k3 => k_asm); (case k4 => k_asm); (case k5 => k_asm); (case kK => exact rfl); (case kd => ktr_room); (case ku => ktr_units); intro t' h' tk' F' N')))
abbrev Plain (q : Addr × Obj) : Prop := q.2.cls ≠ .none ∧ q.2.cls ≠ .type "range_iterator" ∧ q.2.cls ≠ .type "list_iterator"
def Bnd (i : Int) (o : Option Int) : Prop := -1000 ≤ i ∧ i ≤ 1000 ∧ ∀ b, o = some b → -1000 ≤ b ∧ b ≤ 1000
theorem kind_bnd {x : Str} {i : Int} {o : Option Int} (k : Kind x) (e : factor x = some (i, o)) : Bnd i o := by
  cases k with
  | whole i' e' _ b1 b2 => rw [e'] at e; cases e; exact ⟨b1, b2, fun b z => by cases z⟩
  | slash i' b y0 y1 ys e' _ _ _ _ _ _ b1 b2 b3 b4 => rw [e'] at e; cases e; exact ⟨b1, b2, fun b z => by cases z; exact ⟨b3, b4⟩⟩
  | miss y0 ys e' => rw [e'] at e; cases e
def DueIn (x : Str) (v : Value) (l : List (Addr × Obj)) : Prop := (factor x = none ∧ v = .none) ∨ ∃ i o D t1 t2, factor x = some (i, o) ∧ v = .ref D ∧ (D, dueObj i o t1 t2) ∈ l
theorem DueIn.more {x : Str} {v : Value} {l l' : List (Addr × Obj)} (d : DueIn x v l) (k : ∀ q ∈ l, q ∈ l') : DueIn x v l' := by
  rcases d with h | ⟨i, o, D, t1, t2, h1, h2, h3⟩
  · exact .inl h
  · exact .inr ⟨i, o, D, t1, t2, h1, h2, k _ h3⟩
def ElEnd (g : Heap) (L : Addr) (m : Str → Option Value) (s₁ : Shared) (I : Addr) (oI : Obj) (C : Addr) (oC : Obj) (D : Addr) (oD : Obj) (x : Str) (news : List (Addr × Obj)) (y : Value) (s₂ : Shared) : Prop :=
  ∃ h' tk extra, s₂ = { s₁ with heap := h', toks := tk } ∧ Fr g L h' m ∧ News g L h' (extra ++ (I, oI) :: (C, oC) :: (D, oD) :: news) ∧ (∀ p ∈ extra, p.1 ≠ I ∧ p.1 ≠ C ∧ p.1 ≠ D) ∧ (∀ p ∈ extra, Plain p) ∧ DueIn x y extra
theorem comp_each {A : Around} {env : Env} {elt : Expr} {xn : Str} {scope : Scope} {cl' : List (Str × Addr)} {prog : Program} {ax : Addr} {its : Array Value} {Fin : List Value → List (Addr × Obj) → Prop} {news : List (Addr × Obj)} {xs : List (Str × Tok)} {na : Nat}
    (hits : its = (xs.map fun p => Value.str p.1 p.2).toArray) (hax : (ax, ({ cls := .type "list", data := .seq its na } : Obj)) ∈ news)
    (hel : ∀ x t, (x, t) ∈ xs → ∀ news' ys I oI C oC D m₂ h tk (E' : Value → Shared → Prop), LCg.NsObj oC m₂ → m₂ xn = some (.str x t) → Fr g L h m → News g L h ((I, oI) :: (C, oC) :: (D, LCg.lst ys) :: news') → ((@Ne Nat I C) ∧ (@Ne Nat I D) ∧ (@Ne Nat C D)) →
      wpAny (model prog w) A (eval elt (compEnvC scope cl' C env)) (ElEnd g L m { s with heap := h, toks := tk } I oI C oC D (LCg.lst ys) x news') E' { s with heap := h, toks := tk })
    (hfin : ∀ ys ex, ys.length = xs.length → (∀ (j : Nat) (p : Str × Tok) (v : Value), xs[j]? = some p → ys[j]? = some v → DueIn p.1 v ex) → (∀ q ∈ ex, Plain q) → Fin ys (ex ++ news)) :
    LCg.CompRest prog w A g L m env elt xn scope cl' s (LCg.SrcAt g ax its) (fun i v => its[i]? = some v) Fin its.size 0 [] news := by
  have go : ∀ (k i : Nat) (ys : List Value) (ex : List (Addr × Obj)), i + k = xs.length → ys.length = i → (∀ (j : Nat) (p : Str × Tok) (v : Value), xs[j]? = some p → ys[j]? = some v → DueIn p.1 v ex) → (∀ q ∈ ex, Plain q) →
      LCg.CompRest prog w A g L m env elt xn scope cl' s (LCg.SrcAt g ax its) (fun i v => its[i]? = some v) Fin k i ys (ex ++ news) := by
    intro k
    induction k with
    | zero => intro i ys ex h1 h2 h3 h5; exact hfin ys ex (by omega) h3 h5
    | succ k ih =>
      intro i ys ex h1 h2 h3 h5
      refine LCg.CompRest.succ fun v I oI C oC D m₂ h tk E' hv hC hm F N off ne => ?_
      have hi : i < xs.length := by omega
      have hv' : v = .str xs[i].1 xs[i].2 := by
        subst hits
        rw [List.getElem?_toArray, List.getElem?_map, List.getElem?_eq_getElem hi] at hv
        exact (Option.some.inj hv).symm
      subst hv'
      refine wpAny_mono (hel xs[i].1 xs[i].2 (List.getElem_mem hi) (ex ++ news) ys I oI C oC D m₂ h tk E' hC hm F N ne) (fun y s₂ hy => ?_) fun _ _ z => z
      obtain ⟨h', tk', extra, rfl, F', N', off', ecl, due⟩ := hy
      refine ⟨h', tk', extra ++ (ex ++ news), rfl, F', fun q hq => N' q ?_, LCg.Off3.of fun p hp => ?_, .inr ⟨_, List.mem_append_right _ (List.mem_append_right _ hax), rfl, _, rfl⟩, ?_⟩
      · simp only [List.mem_append, List.mem_cons] at hq ⊢
        rcases hq with h | h | h | h | h
        · exact .inr (.inl h)
        · exact .inr (.inr (.inl h))
        · exact .inr (.inr (.inr (.inl h)))
        · exact .inl h
        · exact .inr (.inr (.inr (.inr h)))
      · rcases List.mem_append.mp hp with hp | hp
        · exact off' p hp
        · exact off.mem p hp
      · rw [← List.append_assoc]
        refine ih (i + 1) (ys ++ [y]) (extra ++ ex) (by omega) (by simp [h2]) (fun j p v hj hjy => ?_) fun q hq => ?_
        · rcases Nat.lt_or_ge j ys.length with z | z
          · rw [List.getElem?_append_left z] at hjy
            exact (h3 j p v hj hjy).more fun q hq => List.mem_append_right _ hq
          · rw [List.getElem?_append_right z] at hjy
            obtain rfl : j = i := by
              have : j - ys.length < 1 := by
                rcases Nat.lt_or_ge (j - ys.length) 1 with q | q
                · exact q
                · rw [List.getElem?_eq_none (by simpa using q)] at hjy; cases hjy
              omega
            rw [List.getElem?_eq_getElem hi] at hj
            cases hj
            simp only [h2, Nat.sub_self, List.getElem?_cons_zero, Option.some.injEq] at hjy
            subst hjy
            exact due.more fun q hq => List.mem_append_left _ hq
        · rcases List.mem_append.mp hq with hq | hq
          · exact ecl q hq
          · exact h5 q hq
  have := go xs.length 0 [] [] (by omega) rfl (fun j p v _ h => by simp at h) (fun q hq => nomatch hq)
  rw [show its.size = xs.length from by subst hits; simp]
  exact this
local macro_rules | `(tactic| walk_at "call ref") => `(tactic| (k_here; (with_reducible show wpAny _ _ (call (Value.ref 323) [Value.str _ _]) _ _ _); k_dflt (refine' factor_call ?k1 ?k2 ?k3 ?k4 ?k5 ?kK ?kd ?ku ?kx ?_ ?_; (case k1 => k_asm); (case k2 => k_asm); (case k3 => k_asm); (case k4 => k_asm); (case k5 => k_asm); (case kK => exact rfl); (case kd => ktr_room); (case ku => ktr_units); (case kx => assumption))))
theorem elEnd0 {I C D : Addr} {oI oC oD : Obj} {x : Str} {news : List (Addr × Obj)} {h' : Heap} {tk' : Nat} (e : factor x = none) (F : Fr g L h' m) (N : News g L h' ((I, oI) :: (C, oC) :: (D, oD) :: news)) :
    ElEnd g L m s I oI C oC D oD x news .none { s with heap := h', toks := tk' } := ⟨h', tk', [], rfl, F, N, List.forall_mem_nil _, List.forall_mem_nil _, .inl ⟨e, rfl⟩⟩
theorem elEnd1 {I C D : Addr} {oI oC oD : Obj} {x : Str} {news : List (Addr × Obj)} {h' : Heap} {tk' : Nat} {i : Int} {o : Option Int} {Dd : Addr} {t1 t2 : Tok} (e : factor x = some (i, o)) (F : Fr g L h' m) (N : News g L h' ((Dd, dueObj i o t1 t2) :: (I, oI) :: (C, oC) :: (D, oD) :: news)) (l : ∀ p ∈ (I, oI) :: (C, oC) :: (D, oD) :: news, p.1 < Dd) :
    ElEnd g L m s I oI C oC D oD x news (.ref Dd) { s with heap := h', toks := tk' } := by
  refine ⟨h', tk', [(Dd, dueObj i o t1 t2)], rfl, F, N, fun p hp => ?_, fun p hp => ?_, .inr ⟨i, o, Dd, t1, t2, e, rfl, .head _⟩⟩
  · rw [List.mem_singleton.mp hp]
    exact ⟨Nat.ne_of_gt (l _ (.head _)), Nat.ne_of_gt (l _ (.tail _ (.head _))), Nat.ne_of_gt (l _ (.tail _ (.tail _ (.head _))))⟩
  · rw [List.mem_singleton.mp hp]; exact ⟨nofun, by simp [dueObj], by simp [dueObj]⟩
set_option maxHeartbeats 8000000 in
theorem partC {nl tl : Addr} {n0 n1 n2 n3 n4 : Int} {t0 t1 t2 t3 t4 : Tok} {x0 x1 x2 x3 : Str} {u0 u1 u2 u3 : Tok} {ps : Array Value} {E : Value → Shared → Prop}
  (B : Below A₀ base [] g) (XB : (Mine.hd.heap_39 w.params).In base) (TB : Top pt loose mean mg mb base) (hd : dp + 60 < recursionLimit) (hu : un + 1000 < cLine)
  (F : Fr g L s.heap (fun y => if y = Str.ofString "texts" then some (.ref tl) else if y = Str.ofString "numbers" then some (.ref nl) else m y)) (N : News g L s.heap [(tl, LCg.lst [.str x0 u0, .str x1 u1, .str x2 u2, .str x3 u3]), (nl, LCg.lst [.int n0 t0, .int n1 t1, .int n2 t2, .int n3 t3, .int n4 t4]), (237, tabObj ps)])
  (hx : ∀ x ∈ [x0, x1, x2, x3], Small x ∧ Kind x)
  (next : ∀ dl v0 v1 v2 v3 rest h' tk', (∀ q ∈ rest, Plain q) → DueIn x0 v0 rest → DueIn x1 v1 rest → DueIn x2 v2 rest → DueIn x3 v3 rest →
    Fr g L h' (fun y => if y = Str.ofString "dues" then some (.ref dl) else if y = Str.ofString "texts" then some (.ref tl) else if y = Str.ofString "numbers" then some (.ref nl) else m y) →
    News g L h' ((dl, LCg.lst [v0, v1, v2, v3]) :: (tl, LCg.lst [.str x0 u0, .str x1 u1, .str x2 u2, .str x3 u3]) :: (nl, LCg.lst [.int n0 t0, .int n1 t1, .int n2 t2, .int n3 t3, .int n4 t4]) :: (237, tabObj ps) :: rest) →
    wpC (model PySem.Challenge.rw_bq5007_01.row.prog w) (ktrTop dp un (some []) (Str.ofString "law") (lawScope w.params) L 356 (.ref 355) cl []) (execs ((lawBody w.params).drop 3) (envX (Str.ofString "law") (lawScope w.params) L 356 (.ref 355) cl)) Q E { s with heap := h', toks := tk' }) :
  wpC (model PySem.Challenge.rw_bq5007_01.row.prog w) (ktrTop dp un (some []) (Str.ofString "law") (lawScope w.params) L 356 (.ref 355) cl []) (execs ((lawBody w.params).drop 2) (envX (Str.ofString "law") (lawScope w.params) L 356 (.ref 355) cl)) Q E s := by
  conv in List.drop _ _ => whnf
  conv in (occs := *) lawScope _ => all_goals whnf
  have X := XB.keeps B.stays
  have T := TB.keeps B.stays
  w_strict (
    w_top off
    refine A_cons ?_
    refine LCg.Assign_ListComp_U (F₀ := F) (by rfl) (by with_unfolding_all rfl) (by with_unfolding_all rfl) (by decide) (by rfl) (by decide) (by rfl) (by rfl) (by rfl) ?_
    refine nameE_L F (by rfl) ?_ rfl rfl (by rfl)
    refine LCg.CompSrc.ledger rfl F N (.head _) (by show 4 ≤ sizeLine; size_fits) fun g' => ?_
    refine comp_each (xs := [(x0, u0), (x1, u1), (x2, u2), (x3, u3)]) rfl (.head _) (fun x t hxm news' ys I oI C oC D m₂ h tk E' hC hm F' N' ne => ?_) fun ys ex hlen hdue hnew => ?_
    · have hlx : x.length ≤ 100 := by
        refine (hx x ?_).1.len
        simp only [List.mem_cons, Prod.mk.injEq, List.not_mem_nil, or_false] at hxm ⊢
        rcases hxm with h | h | h | h <;> simp [h.1]
      clear N F
      k_steps
      · exact elEnd0 (by assumption) (by assumption) (by assumption)
      · exact elEnd1 (by assumption) (by assumption) (by assumption) (by assumption)
    · intro D h tk F' N' o1
      obtain ⟨v0, v1, v2, v3, rfl⟩ : ∃ v0 v1 v2 v3, ys = [v0, v1, v2, v3] := by
        match ys, hlen with
        | [v0, v1, v2, v3], _ => exact ⟨v0, v1, v2, v3, rfl⟩
      have d0 := hdue 0 (x0, u0) v0 rfl rfl
      have d1 := hdue 1 (x1, u1) v1 rfl rfl
      have d2 := hdue 2 (x2, u2) v2 rfl rfl
      have d3 := hdue 3 (x3, u3) v3 rfl rfl
      clear N F
      dsimp only
      refine next D v0 v1 v2 v3 ex h tk hnew d0 d1 d2 d3 F' fun q hq => N' q ?_
      simp only [List.mem_cons, List.mem_append, List.not_mem_nil, or_false] at hq ⊢
      rcases hq with h | h | h | h | h
      · exact .inl h
      · exact .inr (.inr (.inl h))
      · exact .inr (.inr (.inr (.inl h)))
      · exact .inr (.inr (.inr (.inr h)))
      · exact .inr (.inl h))
end
end Mine
end PartF4

section PartF5
open PySem PySem.W PyProof.Rows PySem.Calls PySem.Spec
set_option linter.all false
set_option maxRecDepth 100000
namespace Mine
section
variable {pt : Program} {w : World} {mean : ExcName → Option Value} {mg mb : Str → Option Value} {dp un : Nat} {cl : List (Str × Addr)} {A₀ : Around} {base g : Heap} {L : Addr} {m : Str → Option Value} {s : Shared} {Q : Flow → Shared → Prop} {E : Value → Shared → Prop} {loose : List Str}
local macro_rules | `(tactic| ke_room) => `(tactic| ktr_units)
local macro_rules | `(tactic| k_units) => `(tactic| ktr_units)
local macro_rules | `(tactic| k_room) => `(tactic| ktr_room)
local macro_rules | `(tactic| walk_at "StrBack") => `(tactic| (k_dflt (dsimp only [StrBack]); (try k_fold)))
local macro_rules | `(tactic| walk_at "CmpBack") => `(tactic| (k_dflt (dsimp only [CmpBack]); (try k_fold)))
def FoundIn (P : Params) (v : Value) (l : List (Addr × Obj)) : Prop := ∃ T xx fd D i o q1 q2 q3 t1 t2 t3 t4 t5, v = .ref T ∧ (T, ({ cls := .type "tuple", data := .seq #[.ref xx, .ref D] } : Obj)) ∈ l ∧ (xx, instObj 176 fd) ∈ l ∧ (fd, rfD P i o q1 q2 q3 t1 t2 t3) ∈ l ∧ (D, dueObj i o t4 t5) ∈ l ∧ Bnd i o
theorem FoundIn.more {P : Params} {v : Value} {l l' : List (Addr × Obj)} (x : FoundIn P v l) (k : ∀ q ∈ l, q ∈ l') : FoundIn P v l' := by
  obtain ⟨T, xx, fd, D, i, o, q1, q2, q3, t1, t2, t3, t4, t5, h1, h2, h3, h4, h5, h6⟩ := x
  exact ⟨T, xx, fd, D, i, o, q1, q2, q3, t1, t2, t3, t4, t5, h1, k _ h2, k _ h3, k _ h4, k _ h5, h6⟩
abbrev lawMap (fl dl tl nl : Addr) (m0 : Str → Option Value) : Str → Option Value := fun y => if y = Str.ofString "found_row" then some (.ref fl) else if y = Str.ofString "dues" then some (.ref dl) else if y = Str.ofString "texts" then some (.ref tl) else if y = Str.ofString "numbers" then some (.ref nl) else m0 y
theorem canon {fl dl tl nl : Addr} {m : Str → Option Value} (h1 : m (Str.ofString "found_row") = some (.ref fl)) (h2 : m (Str.ofString "dues") = some (.ref dl)) (h3 : m (Str.ofString "texts") = some (.ref tl)) (h4 : m (Str.ofString "numbers") = some (.ref nl)) : m = lawMap fl dl tl nl m := by
  funext y
  unfold lawMap
  split
  · rename_i e; rw [e, h1]
  · split
    · rename_i e; rw [e, h2]
    · split
      · rename_i e; rw [e, h3]
      · split
        · rename_i e; rw [e, h4]
        · rfl
def TxtAt (tvs dvs : List Value) (rest : List (Addr × Obj)) : Prop := ∀ i, i < 4 → ∃ x u v, tvs[i]? = some (.str x u) ∧ dvs[i]? = some v ∧ Small x ∧ Kind x ∧ DueIn x v rest
theorem TxtAt.more {tvs dvs : List Value} {l l' : List (Addr × Obj)} (x : TxtAt tvs dvs l) (k : ∀ q ∈ l, q ∈ l') : TxtAt tvs dvs l' := fun i hi => by
  obtain ⟨x, u, v, h1, h2, h3, h4, h5⟩ := x i hi
  exact ⟨x, u, v, h1, h2, h3, h4, h5.more k⟩
abbrev lawLed (fl dl tl nl : Addr) (fvs dvs tvs nvs : List Value) (ps : Array Value) (rest : List (Addr × Obj)) : List (Addr × Obj) := (fl, LCg.lst fvs) :: (dl, LCg.lst dvs) :: (tl, LCg.lst tvs) :: (nl, LCg.lst nvs) :: (237, tabObj ps) :: rest
def RowSt (w : World) (A₀ : Around) (base : Heap) (fl dl tl nl : Addr) (tvs dvs nvs : List Value) (i : Nat) (g : Heap) (m : Str → Option Value) (led : List (Addr × Obj)) : Prop :=
  ∃ m0 fvs ps rest, Below A₀ base [] g ∧ m = lawMap fl dl tl nl m0 ∧ led = lawLed fl dl tl nl fvs dvs tvs nvs ps rest ∧ (∀ q ∈ rest, Plain q) ∧ (∀ q ∈ (dl, LCg.lst dvs) :: (tl, LCg.lst tvs) :: (nl, LCg.lst nvs) :: (237, tabObj ps) :: rest, q.1 ≠ fl) ∧ TxtAt tvs dvs rest ∧ (∀ v ∈ fvs, FoundIn w.params v rest) ∧ fvs.length ≤ i ∧ TriplesOk ps.toList
theorem item_at {prog : Program} {A : Around} {value slice : PySem.Expr} {l : Addr} {vs : List Value} {i : Nat} {u : Tok} {v : Value} {Q : Value → Shared → Prop} {h₀ : Heap} {led : List (Addr × Obj)} {E : Value → Shared → Prop} (N : News h₀ L s.heap led) (hm : (l, LCg.lst vs) ∈ led) (hx : vs[i]? = some v) (hi : i < 4) (h : Q v s)
    (hs : subscripted slice false (.ref l) (.int (i : Int) u) = operate [.ref l, .int (i : Int) u] (getItem (.ref l) (.int (i : Int) u)) := by with_unfolding_all rfl) :
    wpAny (model prog w) A (subscriptTail value slice (.ref l) (.int (i : Int) u)) Q E s := by
  have hl : s.heap.IsList l vs.toArray := ⟨_, (N _ hm).1, rfl, _, rfl⟩
  exact tail_any hl.typeIs slot_list_getitem.lookup (wpAny_getItem_list hl (by omega) (by omega) (by simpa using hx) h) hs
def RangeGot (g : Heap) (L : Addr) (m : Str → Option Value) (led : List (Addr × Obj)) (n : Nat) (s : Shared) (v : Value) (s₁ : Shared) : Prop := ∃ r t u v' h' tk', s₁ = { s with heap := h', toks := tk' } ∧ v = .ref r ∧ IsRange h' r 0 n 1 t u v' ∧ Fr g L h' m ∧ News g L h' led
def RowApp (h h' : Heap) (fl : Addr) (fvs : List Value) (x : Value) : Prop := h'.get? fl = some (LCg.lst (fvs ++ [x])) ∧ Heap.SameBut fl h h'
theorem row_append {prog : Program} {A : Around} {fl : Addr} {fvs : List Value} {x : Value} {Q : Value → Shared → Prop} {led : List (Addr × Obj)} {E : Value → Shared → Prop} (F : Fr g L s.heap m) (N : News g L s.heap led) (hm : (fl, LCg.lst fvs) ∈ led) (hn : fvs.length ≤ 8)
    (h : ∀ h', Fr g L h' m → RowApp s.heap h' fl fvs x → Q .none { s with heap := h' }) : wpAny (model prog w) A (call (.builtin "list.append") [.ref fl, x]) Q E s := by
  have z := N _ hm
  refine append_at (hsz := by rw [sizeLine_eq, List.size_toArray]; omega) z.1 fun h' hs hD => h h' (F.change hs z.2.1 z.2.2) ⟨hD.trans (congrArg some (LCg.lst_snoc fvs x)), hs⟩
end
end Mine
end PartF5

local macro_rules | `(tactic| walk_at "no key") => `(tactic| fail)
local macro_rules | `(tactic| walk_at "no key") => `(tactic| fail)
local macro_rules | `(tactic| walk_at "no key") => `(tactic| fail)
local macro_rules | `(tactic| walk_at "no key") => `(tactic| fail)
local macro_rules | `(tactic| walk_at "no key") => `(tactic| fail)
section PartF6
open PySem PySem.W PyProof.Rows PySem.Calls PySem.Spec
set_option linter.all false
set_option maxRecDepth 100000
namespace Mine
section
variable {pt : Program} {w : World} {mean : ExcName → Option Value} {mg mb : Str → Option Value} {dp un : Nat} {cl : List (Str × Addr)} {A₀ : Around} {base g : Heap} {L : Addr} {m : Str → Option Value} {s : Shared} {Q : Flow → Shared → Prop} {E : Value → Shared → Prop} {loose : List Str}
local macro_rules | `(tactic| ke_room) => `(tactic| ktr_units)
local macro_rules | `(tactic| k_units) => `(tactic| ktr_units)
local macro_rules | `(tactic| k_room) => `(tactic| ktr_room)
local macro_rules | `(tactic| walk_at "StrBack") => `(tactic| (k_dflt (dsimp only [StrBack]); (try k_fold)))
local macro_rules | `(tactic| walk_at "CmpBack") => `(tactic| (k_dflt (dsimp only [CmpBack]); (try k_fold)))
local macro_rules | `(tactic| walk_at "subscriptTail Name Name ref int") => `(tactic| (k_here; (with_reducible show wpAny _ _ (subscriptTail _ _ (Value.ref _) (Value.int (Int.ofNat _) _)) _ _ _); k_dflt (refine item_at (by k_asm) (by k_mem) (by with_reducible assumption) (by with_reducible assumption) ?_)))
local macro_rules | `(tactic| walk_at "subscriptTail Name Name ref int") => `(tactic| (k_here; (with_reducible show wpAny _ _ (subscriptTail _ _ (Value.ref _) (Value.int (Nat.cast _) _)) _ _ _); k_dflt (refine item_at (by k_asm) (by k_mem) (by with_reducible assumption) (by with_reducible assumption) ?_)))
local macro_rules | `(tactic| walk_at "call builtin:list.append") => `(tactic| (k_here; (with_reducible show wpAny _ _ (call (Value.builtin _) [Value.ref _, Value.ref _]) _ _ _); k_dflt (refine row_append (by k_asm) (by k_asm) (by k_mem) (by omega) ?_); intro h' F' ra'))
local macro_rules | `(tactic| walk_at "call ref") => `(tactic| (k_here; (with_reducible show wpAny _ _ (call (Value.ref 351) [Value.ref _, Value.ref _]) _ _ _); k_dflt (refine' told_call ?k1 ?k2 ?k3 ?k4 ?m1 ?m2 ?m3 ?k5 ?kK ?kd ?ku ?kx ?ky ?kz ?_; (case k1 => k_asm); (case k2 => k_asm); (case k3 => k_asm); (case k4 => k_asm); (case m1 => k_mem); (case m2 => k_mem); (case m3 => k_mem); (case k5 => k_asm); (case kK => exact rfl); (case kd => ktr_room); (case ku => ktr_units); (case kx => with_reducible assumption); (case ky => with_reducible assumption); (case kz => with_reducible assumption)); intro t' h' tk' F' N'))
local macro_rules | `(tactic| walk_at "compareOp Eq ref str") => `(tactic| (k_here; k_dflt (refine' eq_str ?k1 ?k2 ?k3 ?k4 ?m1 ?m2 ?k5 ?kK ?kd ?ku ?_; (case k1 => k_asm); (case k2 => k_asm); (case k3 => k_asm); (case k4 => k_asm); (case m1 => k_mem); (case m2 => k_mem); (case k5 => k_asm); (case kK => exact rfl); (case kd => ktr_room); (case ku => ktr_units)); intro h' tk' F' N'))
local macro_rules | `(tactic| walk_at "compareOp Eq ref int") => `(tactic| (k_here; k_dflt (refine' eq_int ?k1 ?k2 ?k3 ?k4 ?m1 ?m2 ?k5 ?kK ?kd ?ku ?_; (case k1 => k_asm); (case k2 => k_asm); (case k3 => k_asm); (case k4 => k_asm); (case m1 => k_mem); (case m2 => k_mem); (case k5 => k_asm); (case kK => exact rfl); (case kd => ktr_room); (case ku => ktr_units)); intro h' tk' F' N'))
local macro_rules | `(tactic| walk_at "compareOp NotEq ref ref") => `(tactic| (k_here; k_dflt (refine' ne_rf ?k1 ?k2 ?k3 ?k4 ?m1 ?m2 ?m3 ?m4 ?k5 ?kK ?kd ?ku ?_; (case k1 => k_asm); (case k2 => k_asm); (case k3 => k_asm); (case k4 => k_asm); (case m1 => k_mem); (case m2 => k_mem); (case m3 => k_mem); (case m4 => k_mem); (case k5 => k_asm); (case kK => exact rfl); (case kd => ktr_room); (case ku => ktr_units)); intro h' tk' F' N'))
theorem eqV_self (i : Int) (o : Option Int) : eqV i o i o = true := by simp [eqV]
set_option maxHeartbeats 8000000 in
theorem partD {dl tl nl : Addr} {tvs dvs nvs : List Value} {ps : Array Value} {rest : List (Addr × Obj)}
  (B : Below A₀ base [] g) (XB : (Mine.hd.heap_39 w.params).In base) (TB : Top pt loose mean mg mb base) (hd : dp + 60 < recursionLimit) (hu : un + 1000 < cLine)
  (F : Fr g L s.heap (fun y => if y = Str.ofString "dues" then some (.ref dl) else if y = Str.ofString "texts" then some (.ref tl) else if y = Str.ofString "numbers" then some (.ref nl) else m y)) (N : News g L s.heap ((dl, LCg.lst dvs) :: (tl, LCg.lst tvs) :: (nl, LCg.lst nvs) :: (237, tabObj ps) :: rest))
  (hpl : ∀ q ∈ rest, Plain q) (hT : TxtAt tvs dvs rest) (hps : TriplesOk ps.toList)
  (next : ∀ fl g' m' led' h' tk', RowSt w A₀ base fl dl tl nl tvs dvs nvs 4 g' m' led' → Fr g' L h' m' → News g' L h' led' →
    wpC (model PySem.Challenge.rw_bq5007_01.row.prog w) (ktrTop dp un (some []) (Str.ofString "law") (lawScope w.params) L 356 (.ref 355) cl []) (execs ((lawBody w.params).drop 5) (envX (Str.ofString "law") (lawScope w.params) L 356 (.ref 355) cl)) Q E { s with heap := h', toks := tk' }) :
  wpC (model PySem.Challenge.rw_bq5007_01.row.prog w) (ktrTop dp un (some []) (Str.ofString "law") (lawScope w.params) L 356 (.ref 355) cl []) (execs ((lawBody w.params).drop 3) (envX (Str.ofString "law") (lawScope w.params) L 356 (.ref 355) cl)) Q E s := by
  conv in List.drop _ _ => whnf
  conv in (occs := *) lawScope _ => all_goals whnf
  have X := XB.keeps B.stays
  have T := TB.keeps B.stays
  w_strict (
    w_top off
    refine A_cons ?_
    k_steps
    rename_i fl h1 l1 h2 F2 N2
    have j0 : RowSt w A₀ base fl dl tl nl tvs dvs nvs 0 g _ _ := ⟨m, [], ps, rest, B, rfl, rfl, hpl, fun q hq => by
      have l2 := allLt_mem (d := fl) (l := rest) l1.2.2.2.2
      simp only [List.mem_cons] at hq
      rcases hq with rfl | rfl | rfl | rfl | hq
      · exact Nat.ne_of_lt l1.1
      · exact Nat.ne_of_lt l1.2.1
      · exact Nat.ne_of_lt l1.2.2.1
      · exact Nat.ne_of_lt l1.2.2.2.1
      · exact Nat.ne_of_lt (l2 q hq), hT, nofun, Nat.le_refl _, hps⟩
    refine C_cons (C_for_range (L := L) (n := 4) (J := fun i g m led => RowSt w A₀ base fl dl tl nl tvs dvs nvs i g m led) rfl rfl (by rfl) (by rfl) ?iter (by decide) (by rfl) j0 ?turn ?done)
    case done =>
      intro g' m' led' h' tk' J F' N'
      exact next fl g' m' led' h' tk' J F' N'
    case iter =>
      show wpAny _ _ _ (RangeGot g L _ _ 4 _) _ _
      clear next j0
      k_steps
      exact ⟨_, _, _, _, _, _, rfl, rfl, by assumption, by assumption, by assumption⟩
    case turn =>
      clear next j0 F2 N2 B X T l1 hpl hT hps
      intro i g1 m1 led1 I oI h3 tk3 t3 hi hcI J F3 N3 off
      obtain ⟨m0, fvs, ps1, rest1, B1, rfl, rfl, hpl1, hfl1, hT1, hF1, hlen1, hps1⟩ := J
      obtain ⟨x, u, v, hx, hv, hsm, hk, due⟩ := hT1 i hi
      have X := XB.keeps B1.stays
      have T := TB.keeps B1.stays
      have D1 : KtsDicts (fr []) g1 := fun _ h => nomatch h
      refine A_cons ?_
      k_steps
      rename_i h4 F4 N4
      dsimp only
      refine C_cons (C_try ?_)
      refine C_last (C_assign_name (C_call_attr (pl := _) ?_))
      k_steps
      · exact keepsOk_K (X.keeps (Fr.keep (by assumption))) (by k_is)
      refine' create_C B1 F4 X N4 T XB TB D1 rfl rfl ?hd ?hu rfl hsm hk ?good ?bad
      case hd => ktr_room
      case hu => exact (show un + 100 < cLine from by omega)
      case good =>
        intro ii oo xx fd q1 q2 q3 s1 s2 s3 h5 tk5 hfac hbd S5 n1 n2 e1 e2
        obtain ⟨g2, T2, F5, N5, B2, D2⟩ := turn B1 F4 N4 D1 S5
        have N6 := (Fresh.cons (p := (xx, instObj 176 fd)) n1 e1 (Fresh.cons (p := (fd, rfD w.params ii oo q1 q2 q3 s1 s2 s3)) n2 e2 .nil)).ledger F4 T2 N5
        simp only [List.cons_append, List.nil_append] at N6
        obtain ⟨Dd, a1, a2, rfl, hDm⟩ : ∃ Dd a1 a2, v = .ref Dd ∧ (Dd, dueObj ii oo a1 a2) ∈ rest1 := by
          rcases due with ⟨e0, _⟩ | ⟨i', o', Dd, a1, a2, e0, ev, hm⟩
          · rw [hfac] at e0; cases e0
          · rw [hfac] at e0; cases e0; exact ⟨Dd, a1, a2, ev, hm⟩
        have N7 := news_cons N6 (p := (Dd, dueObj ii oo a1 a2)) (by simp [lawLed, hDm])
        obtain ⟨b1, b2, b3⟩ := hbd
        have X2 := XB.keeps B2.stays
        have TT2 := TB.keeps B2.stays
        have hlen2 : fvs.length ≤ 8 := by omega
        clear N6 N5 N4 F4 X T B1
        k_steps
        dsimp only
        rename_i h6 F6 N6
        have N8 : News g2 L h6 ((Dd, ({ cls := .type "tuple", data := .seq #[.int ii a1, optV oo a2] } : Obj)) :: _) := news_cons N6 (.head _)
        clear N6
        refine C_nil ?_
        dsimp only
        refine A_cons ?_
        k_steps
        dsimp only
        refine C_last (wpC_of ?_)
        k_steps
        · rename_i T6 h7 F7 N7 l7 h8 F8 ra8
          have cx : xx ≠ I := ne_cls N7 (.tail _ (.tail _ (.tail _ (.head _)))) (.tail _ (.tail _ (.tail _ (.tail _ (.tail _ (.tail _ (.head _))))))) (by rw [hcI]; exact nofun)
          have cf : fd ≠ I := ne_cls N7 (.tail _ (.tail _ (.tail _ (.tail _ (.head _))))) (.tail _ (.tail _ (.tail _ (.tail _ (.tail _ (.tail _ (.head _))))))) (by rw [hcI]; simp [rfD, dictOf])
          have fx : xx ≠ fl := ne_cls N7 (.tail _ (.tail _ (.tail _ (.head _)))) (.tail _ (.tail _ (.tail _ (.tail _ (.tail _ (.tail _ (.tail _ (.head _)))))))) nofun
          have ff : fd ≠ fl := ne_cls N7 (.tail _ (.tail _ (.tail _ (.tail _ (.head _))))) (.tail _ (.tail _ (.tail _ (.tail _ (.tail _ (.tail _ (.tail _ (.head _)))))))) (by simp [rfD, dictOf])
          have lI : I < T6 := l7.2.2.2.2.2.1
          have lf : fl < T6 := l7.2.2.2.2.2.2.1
          have up : ∀ q : Addr × Obj, q.1 ≠ fl → (h7.get? q.1 = some q.2 ∧ q.1 ≠ L ∧ g2.get? q.1 = none) → (h8.get? q.1 = some q.2 ∧ q.1 ≠ L ∧ g2.get? q.1 = none) := fun q nq z => ⟨ra8.2.extBut _ _ nq z.1, z.2⟩
          have hr : ∀ q ∈ (T6, ({ cls := .type "tuple", data := .seq #[.ref xx, .ref Dd] } : Obj)) :: (xx, instObj 176 fd) :: (fd, rfD w.params ii oo q1 q2 q3 s1 s2 s3) :: rest1, q.1 ≠ fl ∧ q.1 ≠ I ∧ Plain q ∧ (h7.get? q.1 = some q.2 ∧ q.1 ≠ L ∧ g2.get? q.1 = none) := fun q hq => by
            simp only [List.mem_cons] at hq
            rcases hq with rfl | rfl | rfl | hq
            · exact ⟨Nat.ne_of_gt lf, Nat.ne_of_gt lI, ⟨nofun, by simp, by simp⟩, N7 _ (.head _)⟩
            · exact ⟨fx, cx, ⟨nofun, nofun, nofun⟩, N7 _ (.tail _ (.tail _ (.tail _ (.head _))))⟩
            · exact ⟨ff, cf, ⟨by simp [rfD, dictOf], by simp [rfD, dictOf], by simp [rfD, dictOf]⟩, N7 _ (.tail _ (.tail _ (.tail _ (.tail _ (.head _)))))⟩
            · exact ⟨hfl1 q (by simp [hq]), off q (by simp [lawLed, hq]), hpl1 q hq, N7 q (by simp [lawLed, hq])⟩
          have h4o : ∀ q ∈ [(dl, LCg.lst dvs), (tl, LCg.lst tvs), (nl, LCg.lst nvs), (237, tabObj ps1)], q.1 ≠ fl ∧ q.1 ≠ I ∧ (h7.get? q.1 = some q.2 ∧ q.1 ≠ L ∧ g2.get? q.1 = none) := fun q hq => by
            refine ⟨hfl1 q ?_, off q ?_, N7 q ?_⟩ <;> simp only [lawLed, List.mem_cons, List.not_mem_nil, or_false] at hq ⊢ <;> rcases hq with h | h | h | h <;> simp only [h, true_or, or_true]
          have zI := N7 (I, oI) (.tail _ (.tail _ (.tail _ (.tail _ (.tail _ (.tail _ (.head _)))))))
          have nIf : I ≠ fl := Ne.symm (off _ (.head _))
          refine ⟨g2, _, lawLed fl dl tl nl (fvs ++ [.ref T6]) dvs tvs nvs ps1 ((T6, { cls := .type "tuple", data := .seq #[.ref xx, .ref Dd] }) :: (xx, instObj 176 fd) :: (fd, rfD w.params ii oo q1 q2 q3 s1 s2 s3) :: rest1), h8, _, rfl, F8, fun q hq => ?_, fun q hq => ?_, _, fvs ++ [.ref T6], ps1, _, B2, canon (by rfl) (by rfl) (by rfl) (by rfl), rfl, fun q hq => (hr q hq).2.2.1, fun q hq => ?_, hT1.more fun q hq => .tail _ (.tail _ (.tail _ hq)), fun v hv => ?_, by rw [List.length_append, List.length_singleton]; omega, hps1⟩
          · rcases List.mem_cons.mp hq with rfl | hq
            · exact up _ nIf zI
            · rcases List.mem_cons.mp hq with rfl | hq
              · have z := N7 (fl, LCg.lst fvs) (.tail _ (.tail _ (.tail _ (.tail _ (.tail _ (.tail _ (.tail _ (.head _))))))))
                exact ⟨ra8.1, z.2⟩
              · rcases List.mem_append.mp (show q ∈ [(dl, LCg.lst dvs), (tl, LCg.lst tvs), (nl, LCg.lst nvs), (237, tabObj ps1)] ++ _ from hq) with hq | hq
                · have z := h4o q hq
                  exact up q z.1 z.2.2
                · have z := hr q hq
                  exact up q z.1 z.2.2.2
          · rcases List.mem_cons.mp hq with rfl | hq
            · exact Ne.symm nIf
            · rcases List.mem_append.mp (show q ∈ [(dl, LCg.lst dvs), (tl, LCg.lst tvs), (nl, LCg.lst nvs), (237, tabObj ps1)] ++ _ from hq) with hq | hq
              · exact (h4o q hq).2.1
              · exact (hr q hq).2.1
          · rcases List.mem_append.mp (show q ∈ [(dl, LCg.lst dvs), (tl, LCg.lst tvs), (nl, LCg.lst nvs), (237, tabObj ps1)] ++ _ from hq) with hq | hq
            · exact (h4o q hq).1
            · exact (hr q hq).1
          · rcases List.mem_append.mp hv with hv | hv
            · exact (hF1 v hv).more fun q hq => .tail _ (.tail _ (.tail _ hq))
            · rw [List.mem_singleton.mp hv]
              exact ⟨T6, xx, fd, Dd, ii, oo, q1, q2, q3, s1, s2, s3, a1, a2, rfl, .head _, .tail _ (.head _), .tail _ (.tail _ (.head _)), .tail _ (.tail _ (.tail _ hDm)), ⟨b1, b2, b3⟩⟩
        · exact absurd (eqV_self ii oo) (by simp [*])
      case bad =>
        intro hfac e ctx h5 tk5 U5 S5
        have hvn : v = .none := by
          rcases due with ⟨_, e0⟩ | ⟨i', o', Dd, a1, a2, e0, _⟩
          · exact e0
          · rw [hfac] at e0; cases e0
        subst hvn
        dsimp only
        refine catch_C (T' := "ValueError") rfl rfl rfl B1 F4 N4 D1 U5 (.inr (.inl rfl)) S5 (by kts_sub) (by rfl) (by kts_sub) ?_ ?_
        · intro g' s₂ Q' E' F₂ B₂ q
          have X₂ := XB.keeps B₂.stays
          have T₂ := TB.keeps B₂.stays
          k_steps
          exact q
        intro g2 h6 oe T2 F6 x6 N6 B2 D2 U6 S6
        have X2 := XB.keeps B2.stays
        have TT2 := TB.keeps B2.stays
        clear X T B1 F4 N4
        refine C_last (wpC_of ?_)
        k_steps
        dsimp only
        refine A_cons ?_
        k_steps
        dsimp only
        refine C_last (wpC_of ?_)
        k_steps
        rename_i h7 F7 N7
        exact ⟨g2, _, lawLed fl dl tl nl fvs dvs tvs nvs ps1 rest1, h7, _, rfl, F7, fun q hq => N7 q (.tail _ (.tail _ hq)), off, _, fvs, ps1, rest1, B2, canon (by rfl) (by rfl) (by rfl) (by rfl), rfl, hpl1, hfl1, hT1, hF1, by omega, hps1⟩)
end
end Mine
end PartF6

local macro_rules | `(tactic| walk_at "no key") => `(tactic| fail)
local macro_rules | `(tactic| walk_at "no key") => `(tactic| fail)
local macro_rules | `(tactic| walk_at "no key") => `(tactic| fail)
local macro_rules | `(tactic| walk_at "no key") => `(tactic| fail)
local macro_rules | `(tactic| walk_at "no key") => `(tactic| fail)
local macro_rules | `(tactic| walk_at "no key") => `(tactic| fail)
local macro_rules | `(tactic| walk_at "no key") => `(tactic| fail)
local macro_rules | `(tactic| walk_at "no key") => `(tactic| fail)
local macro_rules | `(tactic| walk_at "no key") => `(tactic| fail)
local macro_rules | `(tactic| walk_at "no key") => `(tactic| fail)
section PartF7
open PySem PySem.W PyProof.Rows PySem.Calls PySem.Spec
set_option linter.all false
set_option maxRecDepth 100000
namespace Mine
section
variable {pt : Program} {w : World} {mean : ExcName → Option Value} {mg mb : Str → Option Value} {dp un : Nat} {cl : List (Str × Addr)} {A₀ : Around} {base g : Heap} {L : Addr} {m : Str → Option Value} {s : Shared} {Q : Flow → Shared → Prop} {E : Value → Shared → Prop} {loose : List Str}
local macro_rules | `(tactic| ke_room) => `(tactic| ktr_units)
local macro_rules | `(tactic| k_units) => `(tactic| ktr_units)
local macro_rules | `(tactic| k_room) => `(tactic| ktr_room)
local macro_rules | `(tactic| walk_at "StrBack") => `(tactic| (k_dflt (dsimp only [StrBack]); (try k_fold)))
local macro_rules | `(tactic| walk_at "CmpBack") => `(tactic| (k_dflt (dsimp only [CmpBack]); (try k_fold)))
local macro_rules | `(tactic| walk_at "subscriptTail Name Name ref int") => `(tactic| (k_here; (with_reducible show wpAny _ _ (subscriptTail _ _ (Value.ref _) (Value.int (Int.ofNat _) _)) _ _ _); k_dflt (refine item_at (by k_asm) (by k_mem) (by with_reducible assumption) (by with_reducible assumption) ?_)))
local macro_rules | `(tactic| walk_at "subscriptTail Name Name ref int") => `(tactic| (k_here; (with_reducible show wpAny _ _ (subscriptTail _ _ (Value.ref _) (Value.int (Nat.cast _) _)) _ _ _); k_dflt (refine item_at (by k_asm) (by k_mem) (by with_reducible assumption) (by with_reducible assumption) ?_)))
local macro_rules | `(tactic| walk_at "compareOp NotEq ref ref") => `(tactic| (k_here; k_dflt (refine' ne_rf ?k1 ?k2 ?k3 ?k4 ?m1 ?m2 ?m3 ?m4 ?k5 ?kK ?kd ?ku ?_; (case k1 => k_asm); (case k2 => k_asm); (case k3 => k_asm); (case k4 => k_asm); (case m1 => k_mem); (case m2 => k_mem); (case m3 => k_mem); (case m4 => k_mem); (case k5 => k_asm); (case kK => exact rfl); (case kd => ktr_room); (case ku => ktr_units)); intro h' tk' F' N'))
local macro_rules | `(tactic| walk_at "compareOp Eq ref ref") => `(tactic| (k_here; k_dflt (refine' eq_rf ?k1 ?k2 ?k3 ?k4 ?m1 ?m2 ?m3 ?m4 ?k5 ?kK ?kd ?ku ?_; (case k1 => k_asm); (case k2 => k_asm); (case k3 => k_asm); (case k4 => k_asm); (case m1 => k_mem); (case m2 => k_mem); (case m3 => k_mem); (case m4 => k_mem); (case k5 => k_asm); (case kK => exact rfl); (case kd => ktr_room); (case ku => ktr_units)); intro h' tk' F' N'))
local macro_rules | `(tactic| walk_at "call ref") => `(tactic| (k_here; (with_reducible show wpAny _ _ (call (Value.ref 330) [Value.ref _]) _ _ _); k_dflt (refine' full_call ?km ?k1 ?k2 ?k3 ?k4 ?k5 ?kK ?kd ?ku ?_; (case k4 => k_asm); (case km => k_mem); (case k1 => k_asm); (case k2 => k_asm); (case k3 => k_asm); (case k5 => k_asm); (case kK => exact rfl); (case kd => ktr_room); (case ku => ktr_units)); intro t' h' tk' F' N'))
theorem eqV_true {i j : Int} {o p : Option Int} : eqV i o j p = true ↔ (i = j ∧ fullV i o = fullV j p) := by simp [eqV]
theorem eqV_false {i j : Int} {o p : Option Int} : eqV i o j p = false ↔ ¬ (i = j ∧ fullV i o = fullV j p) := by simp [eqV]
abbrev tupO (a b : Value) : Obj := { cls := .type "tuple", data := .seq #[a, b] }
theorem pair_eq {i j : Int} {o p : Option Int} (h : i = j) : eqV i o j p = (fullV i o == fullV j p) := by subst h; by_cases e : fullV i o = fullV i p <;> simp [eqV, e]
theorem pair_ne {i j : Int} {o p : Option Int} (h : i ≠ j) : eqV i o j p = (i == j) := by simp [eqV, h]
theorem canon2 {fl dl tl nl : Addr} {m : Str → Option Value} {d f : Value} (h5 : m (Str.ofString "due") = some d) (h6 : m (Str.ofString "found") = some f) (h1 : m (Str.ofString "found_row") = some (.ref fl)) (h2 : m (Str.ofString "dues") = some (.ref dl)) (h3 : m (Str.ofString "texts") = some (.ref tl)) (h4 : m (Str.ofString "numbers") = some (.ref nl)) :
    m = fun y => if y = Str.ofString "due" then some d else if y = Str.ofString "found" then some f else lawMap fl dl tl nl m y := by
  funext y
  split
  · rename_i e; rw [e, h5]
  · split
    · rename_i e; rw [e, h6]
    · exact congrFun (canon h1 h2 h3 h4) y
theorem drop8 {h : Heap} {a1 a2 a3 a4 a5 a6 a7 a8 : Addr × Obj} {l : List (Addr × Obj)} (N : News g L h (a1 :: a2 :: a3 :: a4 :: a5 :: a6 :: a7 :: a8 :: l)) : News g L h l := fun q hq => N q (.tail _ (.tail _ (.tail _ (.tail _ (.tail _ (.tail _ (.tail _ (.tail _ hq))))))))
set_option maxHeartbeats 8000000 in
theorem partE {fl dl tl nl : Addr} {tvs dvs nvs : List Value} {led : List (Addr × Obj)}
  (XB : (Mine.hd.heap_39 w.params).In base) (TB : Top pt loose mean mg mb base) (hd : dp + 60 < recursionLimit) (hu : un + 1000 < cLine)
  (J : RowSt w A₀ base fl dl tl nl tvs dvs nvs 4 g m led) (F : Fr g L s.heap m) (N : News g L s.heap led)
  (next : ∀ m' h' tk', RowSt w A₀ base fl dl tl nl tvs dvs nvs 4 g m' led → Fr g L h' m' → News g L h' led →
    wpC (model PySem.Challenge.rw_bq5007_01.row.prog w) (ktrTop dp un (some []) (Str.ofString "law") (lawScope w.params) L 356 (.ref 355) cl []) (execs ((lawBody w.params).drop 6) (envX (Str.ofString "law") (lawScope w.params) L 356 (.ref 355) cl)) Q E { s with heap := h', toks := tk' }) :
  wpC (model PySem.Challenge.rw_bq5007_01.row.prog w) (ktrTop dp un (some []) (Str.ofString "law") (lawScope w.params) L 356 (.ref 355) cl []) (execs ((lawBody w.params).drop 5) (envX (Str.ofString "law") (lawScope w.params) L 356 (.ref 355) cl)) Q E s := by
  conv in List.drop _ _ => whnf
  conv in (occs := *) lawScope _ => all_goals whnf
  obtain ⟨m0, fvs, ps, rest, B, rfl, rfl, hpl, hfl, hT, hF, hlen, hps⟩ := J
  have X := XB.keeps B.stays
  have T := TB.keeps B.stays
  have uniq : ∀ {h : Heap} {led : List (Addr × Obj)} {a : Addr} {o o' : Obj}, News g L h led → (a, o) ∈ led → (a, o') ∈ led → o = o' := fun N h1 h2 => by
    have e1 := (N _ h1).1
    have e2 := (N _ h2).1
    rw [show _ = _ from e1] at e2
    exact Option.some.inj e2
  have inL : ∀ q ∈ rest, q ∈ lawLed fl dl tl nl fvs dvs tvs nvs ps rest := fun q hq => .tail _ (.tail _ (.tail _ (.tail _ (.tail _ hq))))
  have hitem : ∀ (i : Nat) (v : Value), fvs.toArray[i]? = some v → FoundIn w.params v rest := fun i v e => hF v (by
    rw [List.getElem?_toArray] at e
    exact List.mem_of_getElem? e)
  w_strict (
    w_top off
    refine C_cons (C_for_pairs (L := L) (g := g) (m := lawMap fl dl tl nl m0) (led := lawLed fl dl tl nl fvs dvs tvs nvs ps rest) (ax := fl) (its := fvs.toArray) (J := fun _ g' m' led' => g' = g ∧ led' = lawLed fl dl tl nl fvs dvs tvs nvs ps rest ∧ ∃ m0, m' = lawMap fl dl tl nl m0) rfl rfl (by rfl) (by rfl) (by rfl) ?iter ⟨rfl, rfl, m0, rfl⟩ ?hax ?hit ?turn ?done)
    case iter => exact nameE_L F (by rfl) ⟨_, _, rfl, rfl, F, N⟩ rfl rfl (by rfl)
    case hax => rintro i g' m' led' ⟨rfl, rfl, _⟩; exact ⟨_, _, .head _, rfl, rfl⟩
    case hit =>
      rintro i v g' m' led' e ⟨rfl, rfl, _⟩
      obtain ⟨Tt, xx, fd, D, i', o, q1, q2, q3, t1, t2, t3, t4, t5, e1, e2, _⟩ := hitem i v e
      exact ⟨Tt, _, _, _, _, e1, inL _ e2, rfl, rfl⟩
    case done =>
      rintro g' m' led' h' tk' ⟨rfl, rfl, m1, rfl⟩ F' N'
      exact next _ h' tk' ⟨m1, fvs, ps, rest, B, rfl, rfl, hpl, hfl, hT, hF, hlen, hps⟩ F' N'
    case turn =>
      clear next
      rintro i g' m' led' I oI h3 tk3 Tt oT a b n' hcI hi hmT hdT ⟨rfl, rfl, m1, rfl⟩ F3 N3 off
      obtain ⟨Tt', xx, fd, D, ii, oo, q1, q2, q3, s1, s2, s3, s4, s5, e1, e2, e3, e4, e5, bnd⟩ := hitem i _ hi
      obtain rfl : Tt = Tt' := by injection e1
      obtain rfl := uniq N3 (.tail _ hmT) (.tail _ (inL _ e2))
      injection hdT with hab _
      injection hab with hab
      injection hab with ha hab
      injection hab with hb _
      subst ha hb
      clear hmT F N
      refine C_last (C_for_pairs (L := L) (g := g') (m := fun y => if y = Str.ofString "due" then some (.ref D) else if y = Str.ofString "found" then some (.ref xx) else lawMap fl dl tl nl m1 y) (led := (I, oI) :: lawLed fl dl tl nl fvs dvs tvs nvs ps rest) (ax := fl) (its := fvs.toArray) (J := fun _ g'' m'' led'' => g'' = g' ∧ led'' = (I, oI) :: lawLed fl dl tl nl fvs dvs tvs nvs ps rest ∧ ∃ m2, m'' = fun y => if y = Str.ofString "due" then some (.ref D) else if y = Str.ofString "found" then some (.ref xx) else lawMap fl dl tl nl m2 y) rfl rfl (by rfl) (by rfl) (by rfl) ?iter2 ⟨rfl, rfl, m1, rfl⟩ ?hax2 ?hit2 ?turn2 ?done2)
      case iter2 => exact nameE_L F3 (by rfl) ⟨_, _, rfl, rfl, F3, N3⟩ rfl rfl (by rfl)
      case hax2 => rintro j g'' m'' led'' ⟨rfl, rfl, _⟩; exact ⟨_, _, .tail _ (.head _), rfl, rfl⟩
      case hit2 =>
        rintro j v g'' m'' led'' e ⟨rfl, rfl, _⟩
        obtain ⟨Tt, xx, fd, D, i', o, q1, q2, q3, t1, t2, t3, t4, t5, e1, e2, _⟩ := hitem j v e
        exact ⟨Tt, _, _, _, _, e1, .tail _ (inL _ e2), rfl, rfl⟩
      case done2 =>
        rintro g'' m'' led'' h' tk' ⟨rfl, rfl, m2, rfl⟩ F' N'
        exact ⟨g'', _, _, h', tk', rfl, F', N', off, rfl, rfl, _, canon (by rfl) (by rfl) (by rfl) (by rfl)⟩
      case turn2 =>
        rintro j g'' m'' led'' I2 oI2 h4 tk4 T2 oT2 a2 b2 n2 hcI2 hj hmT2 hdT2 ⟨rfl, rfl, m2, rfl⟩ F4 N4 off2
        obtain ⟨Tt', xy, fy, Dy, jj, pp, q1', q2', q3', s1', s2', s3', s4', s5', e1', e2', e3', e4', e5', bnd'⟩ := hitem j _ hj
        obtain rfl : T2 = Tt' := by injection e1'
        obtain rfl := uniq N4 (.tail _ hmT2) (.tail _ (.tail _ (inL _ e2')))
        injection hdT2 with hab _
        injection hab with hab
        injection hab with ha hab
        injection hab with hb _
        subst ha hb
        have m5 := (fun q (hq : q ∈ rest) => (show q ∈ (I2, oI2) :: (I, oI) :: lawLed fl dl tl nl fvs dvs tvs nvs ps rest from .tail _ (.tail _ (inL q hq))))
        have N5 := news_cons (news_cons (news_cons (news_cons (news_cons (news_cons (news_cons (news_cons N4 (m5 _ e3)) (.tail _ (m5 _ e4))) (.tail _ (.tail _ (m5 _ e5)))) (.tail _ (.tail _ (.tail _ (m5 _ e3'))))) (.tail _ (.tail _ (.tail _ (.tail _ (m5 _ e4')))))) (.tail _ (.tail _ (.tail _ (.tail _ (.tail _ (m5 _ e5'))))))) (p := (D, tupO (.int ii s4) (optV oo s5))) (.tail _ (.tail _ (.tail _ (.head _))))) (p := (Dy, tupO (.int jj s4') (optV pp s5'))) (.tail _ (.head _))
        clear N4 N3 F3
        refine A_cons ?_
        k_steps
        all_goals (dsimp only; refine C_last (wpC_of ?_); k_steps)
        all_goals first
          | exact absurd ‹(eqV ii oo jj pp != (fullV ii oo == fullV jj pp)) = true› (by rw [pair_eq ‹ii = jj›]; simp)
          | exact absurd ‹((!eqV ii oo jj pp) == (fullV ii oo == fullV jj pp)) = true› (by rw [pair_eq ‹ii = jj›]; simp)
          | exact absurd ‹(eqV ii oo jj pp != (ii == jj)) = true› (by rw [pair_ne ‹ii ≠ jj›]; simp)
          | exact absurd ‹((!eqV ii oo jj pp) == (ii == jj)) = true› (by rw [pair_ne ‹ii ≠ jj›]; simp)
          | exact ⟨g'', _, _, _, _, rfl, by assumption, drop8 (by assumption), off2, rfl, rfl, _, canon2 (by rfl) (by rfl) (by rfl) (by rfl) (by rfl) (by rfl)⟩)
end
end Mine
end PartF7

local macro_rules | `(tactic| walk_at "no key") => `(tactic| fail)
local macro_rules | `(tactic| walk_at "no key") => `(tactic| fail)
local macro_rules | `(tactic| walk_at "no key") => `(tactic| fail)
local macro_rules | `(tactic| walk_at "no key") => `(tactic| fail)
local macro_rules | `(tactic| walk_at "no key") => `(tactic| fail)
local macro_rules | `(tactic| walk_at "no key") => `(tactic| fail)
local macro_rules | `(tactic| walk_at "no key") => `(tactic| fail)
local macro_rules | `(tactic| walk_at "no key") => `(tactic| fail)
section PartF8
open PySem PySem.W PyProof.Rows PySem.Calls PySem.Spec
set_option linter.all false
set_option maxRecDepth 100000
namespace Mine
section
variable {pt : Program} {w : World} {mean : ExcName → Option Value} {mg mb : Str → Option Value} {dp un : Nat} {cl : List (Str × Addr)} {A₀ : Around} {base g : Heap} {L : Addr} {m : Str → Option Value} {s : Shared} {Q : Flow → Shared → Prop} {E : Value → Shared → Prop} {loose : List Str}
local macro_rules | `(tactic| ke_room) => `(tactic| ktr_units)
local macro_rules | `(tactic| k_units) => `(tactic| ktr_units)
local macro_rules | `(tactic| k_room) => `(tactic| ktr_room)
local macro_rules | `(tactic| walk_at "StrBack") => `(tactic| (k_dflt (dsimp only [StrBack]); (try k_fold)))
local macro_rules | `(tactic| walk_at "CmpBack") => `(tactic| (k_dflt (dsimp only [CmpBack]); (try k_fold)))
local macro_rules | `(tactic| walk_at "subscriptTail Name Name ref int") => `(tactic| (k_here; (with_reducible show wpAny _ _ (subscriptTail _ _ (Value.ref _) (Value.int (Int.ofNat _) _)) _ _ _); k_dflt (refine item_at (by k_asm) (by k_mem) (by with_reducible assumption) (by with_reducible assumption) ?_)))
local macro_rules | `(tactic| walk_at "subscriptTail Name Name ref int") => `(tactic| (k_here; (with_reducible show wpAny _ _ (subscriptTail _ _ (Value.ref _) (Value.int (Nat.cast _) _)) _ _ _); k_dflt (refine item_at (by k_asm) (by k_mem) (by with_reducible assumption) (by with_reducible assumption) ?_)))
local macro_rules | `(tactic| walk_at "call ref") => `(tactic| (k_here; (with_reducible show wpAny _ _ (call (Value.ref 351) [Value.ref _, Value.ref _]) _ _ _); k_dflt (refine' told_call (o := none) (u2 := 0) ?k1 ?k2 ?k3 ?k4 ?m1 ?m2 ?m3 ?k5 ?kK ?kd ?ku ?kx ?ky ?kz ?_; (case k1 => k_asm); (case k2 => k_asm); (case k3 => k_asm); (case k4 => k_asm); (case m1 => k_mem); (case m2 => k_mem); (case m3 => k_mem); (case k5 => k_asm); (case kK => exact rfl); (case kd => ktr_room); (case ku => ktr_units); (case kx => assumption); (case ky => assumption); (case kz => exact nofun)); intro t' h' tk' F' N'))
local macro_rules | `(tactic| walk_at "call ref") => `(tactic| (k_here; (with_reducible show wpAny _ _ (call (Value.ref 156) [Value.int _ _]) _ _ _); k_dflt (refine' create_int ?k1 ?k2 ?k3 ?k4 ?k5 ?kK ?kd ?ku ?_; (case k1 => k_asm); (case k2 => k_asm); (case k3 => k_asm); (case k4 => k_asm); (case k5 => k_asm); (case kK => exact rfl); (case kd => ktr_room); (case ku => ktr_units)); intro x' d' q1' q2' q3' t1' t2' t3' h' tk' F' N' l1' l2'))
set_option maxHeartbeats 8000000 in
theorem partF {fl dl tl nl : Addr} {tvs dvs : List Value} {led : List (Addr × Obj)} {n0 n1 n2 n3 n4 : Int} {t0 t1 t2 t3 t4 : Tok}
  (XB : (Mine.hd.heap_39 w.params).In base) (TB : Top pt loose mean mg mb base) (hd : dp + 60 < recursionLimit) (hu : un + 1000 < cLine)
  (J : RowSt w A₀ base fl dl tl nl tvs dvs [.int n0 t0, .int n1 t1, .int n2 t2, .int n3 t3, .int n4 t4] 4 g m led) (F : Fr g L s.heap m) (N : News g L s.heap led)
  (next : ∀ m' h' tk', RowSt w A₀ base fl dl tl nl tvs dvs [.int n0 t0, .int n1 t1, .int n2 t2, .int n3 t3, .int n4 t4] 4 g m' led → Fr g L h' m' → News g L h' led →
    wpC (model PySem.Challenge.rw_bq5007_01.row.prog w) (ktrTop dp un (some []) (Str.ofString "law") (lawScope w.params) L 356 (.ref 355) cl []) (execs ((lawBody w.params).drop 8) (envX (Str.ofString "law") (lawScope w.params) L 356 (.ref 355) cl)) Q E { s with heap := h', toks := tk' }) :
  wpC (model PySem.Challenge.rw_bq5007_01.row.prog w) (ktrTop dp un (some []) (Str.ofString "law") (lawScope w.params) L 356 (.ref 355) cl []) (execs ((lawBody w.params).drop 6) (envX (Str.ofString "law") (lawScope w.params) L 356 (.ref 355) cl)) Q E s := by
  conv in List.drop _ _ => whnf
  conv in (occs := *) lawScope _ => all_goals whnf
  obtain ⟨m0, fvs, ps, rest, B, rfl, rfl, hpl, hfl, hT, hF, hlen, hps⟩ := J
  have X := XB.keeps B.stays
  have T := TB.keeps B.stays
  have b1 : -1000 ≤ ([n0, n1, n2, n3, n4].getD (Int.toNat 4) 0).fmod 20 - 5 := by
    show -1000 ≤ n4.fmod 20 - 5
    have := Int.fmod_nonneg_of_pos n4 (b := 20) (by decide); omega
  have b2 : ([n0, n1, n2, n3, n4].getD (Int.toNat 4) 0).fmod 20 - 5 ≤ 1000 := by
    show n4.fmod 20 - 5 ≤ 1000
    have := Int.fmod_lt_of_pos n4 (b := 20) (by decide); omega
  w_strict (
    w_top off
    refine A_cons ?_
    k_steps
    dsimp only
    refine A_cons ?_
    k_steps
    rename_i h7 tk7 F7 N7
    dsimp only
    exact next _ h7 _ ⟨_, fvs, ps, rest, B, canon (by rfl) (by rfl) (by rfl) (by rfl), rfl, hpl, hfl, hT, hF, hlen, hps⟩ F7 fun q hq => N7 q (.tail _ (.tail _ (.tail _ hq))))
end
end Mine
end PartF8

local macro_rules | `(tactic| walk_at "no key") => `(tactic| fail)
local macro_rules | `(tactic| walk_at "no key") => `(tactic| fail)
local macro_rules | `(tactic| walk_at "no key") => `(tactic| fail)
local macro_rules | `(tactic| walk_at "no key") => `(tactic| fail)
local macro_rules | `(tactic| walk_at "no key") => `(tactic| fail)
local macro_rules | `(tactic| walk_at "no key") => `(tactic| fail)
local macro_rules | `(tactic| walk_at "no key") => `(tactic| fail)
section PartF9
open PySem PySem.W PyProof.Rows PySem.Calls PySem.Spec
set_option linter.all false
set_option maxRecDepth 100000
namespace Mine
section
variable {pt : Program} {w : World} {mean : ExcName → Option Value} {mg mb : Str → Option Value} {dp un : Nat} {cl : List (Str × Addr)} {A₀ : Around} {base g : Heap} {L : Addr} {m : Str → Option Value} {s : Shared} {Q : Flow → Shared → Prop} {E : Value → Shared → Prop} {loose : List Str}
local macro_rules | `(tactic| ke_room) => `(tactic| ktr_units)
local macro_rules | `(tactic| k_units) => `(tactic| ktr_units)
local macro_rules | `(tactic| k_room) => `(tactic| ktr_room)
local macro_rules | `(tactic| walk_at "StrBack") => `(tactic| (k_dflt (dsimp only [StrBack]); (try k_fold)))
local macro_rules | `(tactic| walk_at "CmpBack") => `(tactic| (k_dflt (dsimp only [CmpBack]); (try k_fold)))
local macro_rules | `(tactic| walk_at "subscriptTail Name Name ref int") => `(tactic| (k_here; (with_reducible show wpAny _ _ (subscriptTail _ _ (Value.ref _) (Value.int (Int.ofNat _) _)) _ _ _); k_dflt (refine item_at (by k_asm) (by k_mem) (by with_reducible assumption) (by with_reducible assumption) ?_)))
local macro_rules | `(tactic| walk_at "subscriptTail Name Name ref int") => `(tactic| (k_here; (with_reducible show wpAny _ _ (subscriptTail _ _ (Value.ref _) (Value.int (Nat.cast _) _)) _ _ _); k_dflt (refine item_at (by k_asm) (by k_mem) (by with_reducible assumption) (by with_reducible assumption) ?_)))
local macro_rules | `(tactic| walk_at "call ref") => `(tactic| (k_here; (with_reducible show wpAny _ _ (call (Value.ref 351) [Value.ref _, Value.ref _]) _ _ _); k_dflt (refine' told_call ?k1 ?k2 ?k3 ?k4 ?m1 ?m2 ?m3 ?k5 ?kK ?kd ?ku ?kx ?ky ?kz ?_; (case k1 => k_asm); (case k2 => k_asm); (case k3 => k_asm); (case k4 => k_asm); (case m1 => k_mem); (case m2 => k_mem); (case m3 => k_mem); (case k5 => k_asm); (case kK => exact rfl); (case kd => ktr_room); (case ku => ktr_units); (case kx => with_reducible assumption); (case ky => with_reducible assumption); (case kz => with_reducible assumption)); intro t' h' tk' F' N'))
local macro_rules | `(tactic| walk_at "call ref") => `(tactic| (k_here; (with_reducible show wpAny _ _ (call (Value.ref 330) [Value.ref _]) _ _ _); k_dflt (refine' full_call ?km ?k1 ?k2 ?k3 ?k4 ?k5 ?kK ?kd ?ku ?_; (case k4 => k_asm); (case km => k_mem); (case k1 => k_asm); (case k2 => k_asm); (case k3 => k_asm); (case k5 => k_asm); (case kK => exact rfl); (case kd => ktr_room); (case ku => ktr_units)); intro t' h' tk' F' N'))
theorem keepsOk_meth {M : Model} {K : Frag} {h : Heap} {q f : Addr} {self : Value} (X : K.In h) (hf : fnIn K f = true) (e : h.get? q = some (methodObj (.ref f) self)) : KeepsOk M h (.ref q) := by
  obtain ⟨k, _, z⟩ := keeps_M (M := M) hf h ⟨e, X⟩
  exact ⟨k, z⟩
set_option maxHeartbeats 8000000 in
theorem partG {fl dl tl nl : Addr} {tvs dvs nvs : List Value} {led : List (Addr × Obj)}
  (XB : (Mine.hd.heap_39 w.params).In base) (TB : Top pt loose mean mg mb base) (hd : dp + 60 < recursionLimit) (hu : un + 1000 < cLine)
  (J : RowSt w A₀ base fl dl tl nl tvs dvs nvs 4 g m led) (F : Fr g L s.heap m) (N : News g L s.heap led)
  (next : ∀ g' m' h' tk', RowSt w A₀ base fl dl tl nl tvs dvs nvs 4 g' m' led → Fr g' L h' m' → News g' L h' led →
    wpC (model PySem.Challenge.rw_bq5007_01.row.prog w) (ktrTop dp un (some []) (Str.ofString "law") (lawScope w.params) L 356 (.ref 355) cl []) (execs ((lawBody w.params).drop 9) (envX (Str.ofString "law") (lawScope w.params) L 356 (.ref 355) cl)) Q E { s with heap := h', toks := tk' }) :
  wpC (model PySem.Challenge.rw_bq5007_01.row.prog w) (ktrTop dp un (some []) (Str.ofString "law") (lawScope w.params) L 356 (.ref 355) cl []) (execs ((lawBody w.params).drop 8) (envX (Str.ofString "law") (lawScope w.params) L 356 (.ref 355) cl)) Q E s := by
  conv in List.drop _ _ => whnf
  conv in (occs := *) lawScope _ => all_goals whnf
  obtain ⟨m0, fvs, ps, rest, B, rfl, rfl, hpl, hfl, hT, hF, hlen, hps⟩ := J
  have X := XB.keeps B.stays
  have T := TB.keeps B.stays
  w_strict (
    w_top off
    refine C_cons (C_for_range (L := L) (n := 4) (J := fun _ g' m' led' => Below A₀ base [] g' ∧ led' = lawLed fl dl tl nl fvs dvs tvs nvs ps rest ∧ ∃ m0, m' = lawMap fl dl tl nl m0) rfl rfl (by rfl) (by rfl) ?iter (by decide) (by rfl) ⟨B, rfl, m0, rfl⟩ ?turn ?done)
    case done =>
      rintro g' m' led' h' tk' ⟨B', rfl, m1, rfl⟩ F' N'
      exact next g' _ h' tk' ⟨m1, fvs, ps, rest, B', rfl, rfl, hpl, hfl, hT, hF, hlen, hps⟩ F' N'
    case iter =>
      show wpAny _ _ _ (RangeGot g L _ _ 4 _) _ _
      clear next
      k_steps
      exact ⟨_, _, _, _, _, _, rfl, rfl, by assumption, by assumption, by assumption⟩
    case turn =>
      clear next F N X T B
      rintro i g1 m1 led1 I oI h3 tk3 t3 hi hcI ⟨B1, rfl, m1, rfl⟩ F3 N3 off
      obtain ⟨x, u, v, hx, hv, hsm, hk, due⟩ := hT i hi
      have X := XB.keeps B1.stays
      have T := TB.keeps B1.stays
      have D1 : KtsDicts (fr []) g1 := fun _ h => nomatch h
      refine A_cons ?_
      k_steps
      dsimp only
      refine C_cons (C_assign_name (C_call_attr (pl := _) ?_))
      k_steps
      · exact keepsOk_meth (f := 42) (self := .ref 62) (X.keeps (Fr.keep (by assumption))) (by k_is) (News.get (by assumption) (.head _))
      rename_i hh lo4 hd0 l4 h4' o4 hd4 hf4 h4 F4' N4' q4 h5 F5 N5 l5
      refine wpC_call (method_C (N5 _ (.head _)).1 ?_)
      refine rs_simple_C B1 F5 X N5 (.tail _ (.head _)) hd4 hf4 lo4 T XB TB D1 rfl ?hd ?hu rfl hsm hk ?good ?none
      case hd => ktr_room
      case hu => exact (show un + 300 < cLine from by omega)
      case good =>
        intro ii oo xo dx xx fd kq q1 q2 q3 s1 s2 s3 h6 tk6 hfac hbd S6 fr6
        obtain ⟨g2, T2, F6, N6, B2, D2⟩ := turn B1 F5 N5 D1 S6
        have N7 := fr6.ledger F5 T2 N6
        simp only [List.cons_append, List.nil_append] at N7
        obtain ⟨Dd, a1, a2, rfl, hDm⟩ : ∃ Dd a1 a2, v = .ref Dd ∧ (Dd, dueObj ii oo a1 a2) ∈ rest := by
          rcases due with ⟨e0, _⟩ | ⟨i', o', Dd, a1, a2, e0, ev, hm⟩
          · rw [hfac] at e0; cases e0
          · rw [hfac] at e0; cases e0; exact ⟨Dd, a1, a2, ev, hm⟩
        obtain ⟨b1, b2, b3⟩ := hbd
        have N8 := news_cons N7 (p := (Dd, dueObj ii oo a1 a2)) (by simp [lawLed, hDm])
        have X2 := XB.keeps B2.stays
        have TT2 := TB.keeps B2.stays
        clear N7 N6 N5 N4' F4' F5 X T B1
        k_steps
        dsimp only
        refine A_cons ?_
        k_steps
        rename_i h7 o7 F7 N7 hd7 hf7
        simp only [ssD] at N7
        have N8 : News g2 L h7 ((fd, dictOf [⟨PyData.keyHash w.params (Str.ofString "all_replicas"), .str (Str.ofString "all_replicas") q1, .int ii s1⟩, ⟨PyData.keyHash w.params (Str.ofString "transient_replicas"), .str (Str.ofString "transient_replicas") q2, optV oo s2⟩, ⟨PyData.keyHash w.params (Str.ofString "full_replicas"), .str (Str.ofString "full_replicas") q3, .int (fullV ii oo) s3⟩] 3) :: _) := news_cons N7 (.tail _ (.tail _ (.tail _ (.tail _ (.tail _ (.head _))))))
        clear N7
        dsimp only
        refine C_last (wpC_of ?_)
        k_steps
        · exact absurd rfl ‹fullV ii oo ≠ fullV ii oo›
        · rename_i tA hA kA FA NA eA tB hB kB FB NB
          exact ⟨g2, _, _, hB, _, rfl, FB, fun q hq => NB q (.tail _ (.tail _ (.tail _ (.tail _ (.tail _ (.tail _ (.tail _ (.tail _ (.tail _ hq))))))))), off, B2, rfl, _, canon (by rfl) (by rfl) (by rfl) (by rfl)⟩
      case none =>
        intro hfac h6 tk6 S6
        obtain ⟨g2, T2, F6, N6, B2, D2⟩ := turn B1 F5 N5 D1 S6
        obtain rfl : v = .none := by
          rcases due with ⟨_, e0⟩ | ⟨i', o', Dd, a1, a2, e0, _⟩
          · exact e0
          · rw [hfac] at e0; cases e0
        have X2 := XB.keeps B2.stays
        have TT2 := TB.keeps B2.stays
        clear N5 N4' F4' F5 X T B1
        k_steps
        dsimp only
        refine A_cons ?_
        k_steps
        dsimp only
        refine C_last (C_if ?_)
        k_steps
        refine A_cons ?_
        k_steps
        dsimp only
        refine C_cons (C_try ?_)
        refine C_last (C_expr_raises (C_call_name ?_))
        k_steps
        · exact keepsOk_K (X2.keeps (Fr.keep (by assumption))) (by k_is)
        rename_i h8 F8 N8
        refine simple_C B2 F8 X2 N8 (.tail _ (.tail _ (.head _))) hd4 hf4 lo4 TT2 XB TB D2 rfl ?hd2 ?hu2 rfl hsm hk ?good2 ?bad2
        case hd2 => ktr_room
        case hu2 => exact (show un + 200 < cLine from by omega)
        case good2 =>
          intro ii oo xo dx xx fd kq q1 q2 q3 s1 s2 s3 h9 tk9 hfac2
          rw [hfac] at hfac2; cases hfac2
        case bad2 =>
          intro _ e ctx h9 tk9 U9 S9
          dsimp only
          refine catch_C (T' := "ValueError") rfl rfl rfl B2 F8 N8 D2 U9 (.inr (.inl rfl)) S9 (by kts_sub) (by rfl) (by kts_sub) ?_ ?_
          · intro g' s₂ Q' E' F₂ B₂ q
            have X₂ := XB.keeps B₂.stays
            have T₂ := TB.keeps B₂.stays
            k_steps
            exact q
          intro g3 h10 oe T3 F10 x10 N10 B3 D3 U10 S10
          have X3 := XB.keeps B3.stays
          have TT3 := TB.keeps B3.stays
          clear X2 TT2 B2 F8 N8
          refine C_last (wpC_of ?_)
          k_steps
          dsimp only
          refine C_last (wpC_of ?_)
          k_steps
          rename_i hB FB NB
          exact ⟨g3, _, _, hB, _, rfl, FB, fun q hq => NB q (.tail _ (.tail _ (.tail _ (.tail _ hq)))), off, B3, rfl, _, canon (by rfl) (by rfl) (by rfl) (by rfl)⟩)
end
end Mine
end PartF9

local macro_rules | `(tactic| walk_at "no key") => `(tactic| fail)
local macro_rules | `(tactic| walk_at "no key") => `(tactic| fail)
local macro_rules | `(tactic| walk_at "no key") => `(tactic| fail)
local macro_rules | `(tactic| walk_at "no key") => `(tactic| fail)
local macro_rules | `(tactic| walk_at "no key") => `(tactic| fail)
local macro_rules | `(tactic| walk_at "no key") => `(tactic| fail)
local macro_rules | `(tactic| walk_at "no key") => `(tactic| fail)
section PartF10
open PySem PySem.W PyProof.Rows PySem.Calls PySem.Spec
set_option linter.all false
set_option maxRecDepth 100000
namespace Mine
section
variable {pt : Program} {w : World} {mean : ExcName → Option Value} {mg mb : Str → Option Value} {dp un : Nat} {cl : List (Str × Addr)} {A₀ : Around} {base g : Heap} {L : Addr} {m : Str → Option Value} {s : Shared} {Q : Flow → Shared → Prop} {E : Value → Shared → Prop} {loose : List Str}
local macro_rules | `(tactic| ke_room) => `(tactic| ktr_units)
local macro_rules | `(tactic| k_units) => `(tactic| ktr_units)
local macro_rules | `(tactic| k_room) => `(tactic| ktr_room)
local macro_rules | `(tactic| walk_at "StrBack") => `(tactic| (k_dflt (dsimp only [StrBack]); (try k_fold)))
local macro_rules | `(tactic| walk_at "CmpBack") => `(tactic| (k_dflt (dsimp only [CmpBack]); (try k_fold)))
local macro_rules | `(tactic| walk_at "subscriptTail Name Name ref int") => `(tactic| (k_here; (with_reducible show wpAny _ _ (subscriptTail _ _ (Value.ref _) (Value.int (Int.ofNat _) _)) _ _ _); k_dflt (refine item_at (by k_asm) (by k_mem) (by with_reducible assumption) (by with_reducible assumption) ?_)))
local macro_rules | `(tactic| walk_at "subscriptTail Name Name ref int") => `(tactic| (k_here; (with_reducible show wpAny _ _ (subscriptTail _ _ (Value.ref _) (Value.int (Nat.cast _) _)) _ _ _); k_dflt (refine item_at (by k_asm) (by k_mem) (by with_reducible assumption) (by with_reducible assumption) ?_)))
local macro_rules | `(tactic| walk_at "call ref") => `(tactic| (k_here; (with_reducible show wpAny _ _ (call (Value.ref 351) [Value.ref _, Value.ref _]) _ _ _); k_dflt (refine' told_call ?k1 ?k2 ?k3 ?k4 ?m1 ?m2 ?m3 ?k5 ?kK ?kd ?ku ?kx ?ky ?kz ?_; (case k1 => k_asm); (case k2 => k_asm); (case k3 => k_asm); (case k4 => k_asm); (case m1 => k_mem); (case m2 => k_mem); (case m3 => k_mem); (case k5 => k_asm); (case kK => exact rfl); (case kd => ktr_room); (case ku => ktr_units); (case kx => with_reducible assumption); (case ky => with_reducible assumption); (case kz => with_reducible assumption)); intro t' h' tk' F' N'))
local macro_rules | `(tactic| walk_at "call ref") => `(tactic| (k_here; (with_reducible show wpAny _ _ (call (Value.ref 330) [Value.ref _]) _ _ _); k_dflt (refine' full_call ?km ?k1 ?k2 ?k3 ?k4 ?k5 ?kK ?kd ?ku ?_; (case k4 => k_asm); (case km => k_mem); (case k1 => k_asm); (case k2 => k_asm); (case k3 => k_asm); (case k5 => k_asm); (case kK => exact rfl); (case kd => ktr_room); (case ku => ktr_units)); intro t' h' tk' F' N'))
set_option maxHeartbeats 8000000 in
theorem partH {fl dl tl nl : Addr} {tvs dvs nvs : List Value} {led : List (Addr × Obj)}
  (XB : (Mine.hd.heap_39 w.params).In base) (TB : Top pt loose mean mg mb base) (hd : dp + 60 < recursionLimit) (hu : un + 1000 < cLine)
  (J : RowSt w A₀ base fl dl tl nl tvs dvs nvs 4 g m led) (F : Fr g L s.heap m) (N : News g L s.heap led)
  (next : ∀ g' h' tk', RowSt w A₀ base fl dl tl nl tvs dvs nvs 4 g' m led → Fr g' L h' m → News g' L h' led →
    wpC (model PySem.Challenge.rw_bq5007_01.row.prog w) (ktrTop dp un (some []) (Str.ofString "law") (lawScope w.params) L 356 (.ref 355) cl []) (execs ((lawBody w.params).drop 10) (envX (Str.ofString "law") (lawScope w.params) L 356 (.ref 355) cl)) Q E { s with heap := h', toks := tk' }) :
  wpC (model PySem.Challenge.rw_bq5007_01.row.prog w) (ktrTop dp un (some []) (Str.ofString "law") (lawScope w.params) L 356 (.ref 355) cl []) (execs ((lawBody w.params).drop 9) (envX (Str.ofString "law") (lawScope w.params) L 356 (.ref 355) cl)) Q E s := by
  conv in List.drop _ _ => whnf
  conv in (occs := *) lawScope _ => all_goals whnf
  conv at next in List.drop _ _ => whnf
  conv at next in (occs := *) lawScope _ => all_goals whnf
  obtain ⟨m0, fvs, ps, rest, B, rfl, rfl, hpl, hfl, hT, hF, hlen, hps⟩ := J
  have X := XB.keeps B.stays
  have T := TB.keeps B.stays
  have D1 : KtsDicts (fr []) g := fun _ h => nomatch h
  w_strict (
    w_top off
    refine C_cons (C_if_C (C_isTrue_Compare1 (C_call_attr (pl := _) ?_)))
    k_steps
    · exact keepsOk_meth (f := 42) (self := .ref 62) (X.keeps (Fr.keep (by assumption))) (by k_is) (News.get (by assumption) (.tail _ (.head _)))
    rename_i q1 hq lq d1 h5 o1 F5 N5 lo1 hs1 fs1 hi1 fi1 l1
    refine wpC_call (method_C (N5 _ (.tail _ (.head _))).1 ?_)
    refine rs_empty_C B F5 X N5 (.head _) hs1 lo1 T XB TB D1 rfl ?hd ?hu ?none
    case hd => ktr_room
    case hu => exact (show un + 300 < cLine from by omega)
    case none =>
      intro h6 tk6 S6
      obtain ⟨g2, T2, F6, N6, B2, D2⟩ := turn B F5 N5 D1 S6
      have X2 := XB.keeps B2.stays
      have TT2 := TB.keeps B2.stays
      clear N5 F5 X T
      k_steps
      refine C_nil ?_
      dsimp only
      exact next g2 h6 _ ⟨m0, fvs, ps, rest, B2, rfl, rfl, hpl, hfl, hT, hF, hlen, hps⟩ F6 fun q hq => N6 q (.tail _ (.tail _ hq)))
end
end Mine
end PartF10

local macro_rules | `(tactic| walk_at "no key") => `(tactic| fail)
local macro_rules | `(tactic| walk_at "no key") => `(tactic| fail)
local macro_rules | `(tactic| walk_at "no key") => `(tactic| fail)
local macro_rules | `(tactic| walk_at "no key") => `(tactic| fail)
local macro_rules | `(tactic| walk_at "no key") => `(tactic| fail)
local macro_rules | `(tactic| walk_at "no key") => `(tactic| fail)
local macro_rules | `(tactic| walk_at "no key") => `(tactic| fail)
section PartF12
open PySem PySem.W PyProof.Rows PySem.Calls PySem.Spec
set_option linter.all false
set_option maxRecDepth 100000
namespace Mine
section
variable {pt : Program} {w : World} {mean : ExcName → Option Value} {mg mb : Str → Option Value} {dp un : Nat} {cl : List (Str × Addr)} {A₀ : Around} {base g : Heap} {L : Addr} {m : Str → Option Value} {s : Shared} {Q : Flow → Shared → Prop} {E : Value → Shared → Prop} {loose : List Str}
local macro_rules | `(tactic| ke_room) => `(tactic| ktr_units)
local macro_rules | `(tactic| k_units) => `(tactic| ktr_units)
local macro_rules | `(tactic| k_room) => `(tactic| ktr_room)
local macro_rules | `(tactic| walk_at "StrBack") => `(tactic| (k_dflt (dsimp only [StrBack]); (try k_fold)))
local macro_rules | `(tactic| walk_at "CmpBack") => `(tactic| (k_dflt (dsimp only [CmpBack]); (try k_fold)))
local macro_rules | `(tactic| walk_at "subscriptTail Name Name ref int") => `(tactic| (k_here; (with_reducible show wpAny _ _ (subscriptTail _ _ (Value.ref _) (Value.int (Int.ofNat _) _)) _ _ _); k_dflt (refine item_at (by k_asm) (by k_mem) (by with_reducible assumption) (by with_reducible assumption) ?_)))
local macro_rules | `(tactic| walk_at "subscriptTail Name Name ref int") => `(tactic| (k_here; (with_reducible show wpAny _ _ (subscriptTail _ _ (Value.ref _) (Value.int (Nat.cast _) _)) _ _ _); k_dflt (refine item_at (by k_asm) (by k_mem) (by with_reducible assumption) (by with_reducible assumption) ?_)))
local macro_rules | `(tactic| walk_at "call ref") => `(tactic| (k_here; (with_reducible show wpAny _ _ (call (Value.ref 351) [Value.ref _, Value.ref _]) _ _ _); k_dflt (refine' told_call ?k1 ?k2 ?k3 ?k4 ?m1 ?m2 ?m3 ?k5 ?kK ?kd ?ku ?kx ?ky ?kz ?_; (case k1 => k_asm); (case k2 => k_asm); (case k3 => k_asm); (case k4 => k_asm); (case m1 => k_mem); (case m2 => k_mem); (case m3 => k_mem); (case k5 => k_asm); (case kK => exact rfl); (case kd => ktr_room); (case ku => ktr_units); (case kx => with_reducible assumption); (case ky => with_reducible assumption); (case kz => with_reducible assumption)); intro t' h' tk' F' N'))
local macro_rules | `(tactic| walk_at "call ref") => `(tactic| (k_here; (with_reducible show wpAny _ _ (call (Value.ref 330) [Value.ref _]) _ _ _); k_dflt (refine' full_call ?km ?k1 ?k2 ?k3 ?k4 ?k5 ?kK ?kd ?ku ?_; (case k4 => k_asm); (case km => k_mem); (case k1 => k_asm); (case k2 => k_asm); (case k3 => k_asm); (case k5 => k_asm); (case kK => exact rfl); (case kd => ktr_room); (case ku => ktr_units)); intro t' h' tk' F' N'))
set_option maxHeartbeats 8000000 in
theorem partJ {dl xo dx d1 d2 D0 D1 : Addr} {dO1 : Obj} {r0 r1 : RfRec} {k1 k2 a1 a2 a3 a4 : Tok} {ps : Array Value} {rest : List Value}
  (B : Below A₀ base [] g) (XB : (Mine.hd.heap_39 w.params).In base) (TB : Top pt loose mean mg mb base) (hd : dp + 60 < recursionLimit) (hu : un + 1000 < cLine)
  (b1 : -1000 ≤ r0.i) (b2 : r0.i ≤ 1000) (b3 : ∀ b, r0.oo = some b → -1000 ≤ b ∧ b ≤ 1000) (c1 : -1000 ≤ r1.i) (c2 : r1.i ≤ 1000) (c3 : ∀ b, r1.oo = some b → -1000 ≤ b ∧ b ≤ 1000)
  (hd1 : dO1.IsDictOf (PySem.strKind PySem.Challenge.rw_bq5007_01.row.prog w) [(Str.ofString "5", .ref r0.xx), (Str.ofString "7", .ref r1.xx)]) (lo1 : (d1 == sysModules) = false)
  (F : Fr g L s.heap (fun y => if y = Str.ofString "made" then some (.ref xo) else if y = Str.ofString "dues" then some (.ref dl) else m y))
  (N : News g L s.heap ((D1, dueObj r1.i r1.oo a3 a4) :: (D0, dueObj r0.i r0.oo a1 a2) :: (xo, instObj 266 dx) :: (dx, dictOf [⟨PyData.keyHash w.params (Str.ofString "dc_replication_factors_info"), .str (Str.ofString "dc_replication_factors_info") k1, .ref d1⟩, ⟨PyData.keyHash w.params (Str.ofString "dc_replication_factors"), .str (Str.ofString "dc_replication_factors") k2, .ref d2⟩] 2) :: (d1, dO1) :: (r0.xx, instObj 176 r0.fd) :: (r0.fd, rfD w.params r0.i r0.oo r0.q1 r0.q2 r0.q3 r0.t1 r0.t2 r0.t3) :: (r1.xx, instObj 176 r1.fd) :: (r1.fd, rfD w.params r1.i r1.oo r1.q1 r1.q2 r1.q3 r1.t1 r1.t2 r1.t3) :: (dl, LCg.lst (.ref D0 :: .ref D1 :: rest)) :: [(237, tabObj ps)]))
  (hend : ∀ h' tk', (∀ b o, base.get? b = some o → h'.get? b = some o) → (∃ ps, h'.get? 237 = some (tabObj ps)) → Q (.ret (.bool true)) { s with heap := h', toks := tk' }) :
  wpC (model PySem.Challenge.rw_bq5007_01.row.prog w) (ktrTop dp un (some []) (Str.ofString "law") (lawScope w.params) L 356 (.ref 355) cl []) (execs ((lawBody w.params).drop 15) (envX (Str.ofString "law") (lawScope w.params) L 356 (.ref 355) cl)) Q E s := by
  conv in List.drop _ _ => whnf
  conv in (occs := *) lawScope _ => all_goals whnf
  have X := XB.keeps B.stays
  have T := TB.keeps B.stays
  w_strict (
    w_top off
    refine A_cons ?_
    k_steps
    dsimp only
    refine C_last (wpC_of ?_)
    k_steps
    rename_i h5 F5 N5
    obtain ⟨ep, hat⟩ := (Heap.dictOf_iff.mpr ⟨dO1, (N5 (d1, dO1) (.tail _ (.tail _ (.tail _ (.tail _ (.head _)))))).1, hd1⟩).dictAt
    refine kdu_sorted (kdl_dict (knd := PySem.strKind _ _) (kvs := [(Str.ofString "5", .ref r0.xx), (Str.ofString "7", .ref r1.xx)]) (ep := ep) lo1) rfl F5 N5 hat (by show 2 ≤ sizeLine; size_fits) fun D h6 tk vs F6 N6 l1 hl hv => ?_
    obtain ⟨ta, tb, rfl⟩ : ∃ ta tb, vs = [.str (Str.ofString "5") ta, .str (Str.ofString "7") tb] := by
      match vs, hl with
      | [x, y], _ =>
        obtain ⟨k, z, e1, e2⟩ := hv 0 x rfl
        obtain ⟨k', z', e1', e2'⟩ := hv 1 y rfl
        cases e1; cases e1'
        obtain ⟨ta, rfl⟩ := Value.isStrOf_shape e2
        obtain ⟨tb, rfl⟩ := Value.isStrOf_shape e2'
        exact ⟨ta, tb, rfl⟩
    have l2 := allLt_of l1
    simp only [AllLt] at l2
    clear N5 F5 hv l1
    k_steps
    rename_i tB hB kB FB NB
    exact hend hB _ (fun b o e => FB.keep b o (B.stays b o e)) ⟨ps, (NB (237, tabObj ps) (by simp)).1⟩)
end
end Mine
end PartF12

local macro_rules | `(tactic| walk_at "no key") => `(tactic| fail)
local macro_rules | `(tactic| walk_at "no key") => `(tactic| fail)
local macro_rules | `(tactic| walk_at "no key") => `(tactic| fail)
local macro_rules | `(tactic| walk_at "no key") => `(tactic| fail)
local macro_rules | `(tactic| walk_at "no key") => `(tactic| fail)
local macro_rules | `(tactic| walk_at "no key") => `(tactic| fail)
local macro_rules | `(tactic| walk_at "no key") => `(tactic| fail)
section PartF11
open PySem PySem.W PyProof.Rows PySem.Calls PySem.Spec
set_option linter.all false
set_option maxRecDepth 100000
namespace Mine
section
variable {pt : Program} {w : World} {mean : ExcName → Option Value} {mg mb : Str → Option Value} {dp un : Nat} {cl : List (Str × Addr)} {A₀ : Around} {base g : Heap} {L : Addr} {m : Str → Option Value} {s : Shared} {Q : Flow → Shared → Prop} {E : Value → Shared → Prop} {loose : List Str}
local macro_rules | `(tactic| ke_room) => `(tactic| ktr_units)
local macro_rules | `(tactic| k_units) => `(tactic| ktr_units)
local macro_rules | `(tactic| k_room) => `(tactic| ktr_room)
local macro_rules | `(tactic| walk_at "StrBack") => `(tactic| (k_dflt (dsimp only [StrBack]); (try k_fold)))
local macro_rules | `(tactic| walk_at "CmpBack") => `(tactic| (k_dflt (dsimp only [CmpBack]); (try k_fold)))
local macro_rules | `(tactic| walk_at "subscriptTail Name Name ref int") => `(tactic| (k_here; (with_reducible show wpAny _ _ (subscriptTail _ _ (Value.ref _) (Value.int (Int.ofNat _) _)) _ _ _); k_dflt (refine item_at (by k_asm) (by k_mem) (by with_reducible assumption) (by with_reducible assumption) ?_)))
local macro_rules | `(tactic| walk_at "subscriptTail Name Name ref int") => `(tactic| (k_here; (with_reducible show wpAny _ _ (subscriptTail _ _ (Value.ref _) (Value.int (Nat.cast _) _)) _ _ _); k_dflt (refine item_at (by k_asm) (by k_mem) (by with_reducible assumption) (by with_reducible assumption) ?_)))
local macro_rules | `(tactic| walk_at "call ref") => `(tactic| (k_here; (with_reducible show wpAny _ _ (call (Value.ref 351) [Value.ref _, Value.ref _]) _ _ _); k_dflt (refine' told_call ?k1 ?k2 ?k3 ?k4 ?m1 ?m2 ?m3 ?k5 ?kK ?kd ?ku ?kx ?ky ?kz ?_; (case k1 => k_asm); (case k2 => k_asm); (case k3 => k_asm); (case k4 => k_asm); (case m1 => k_mem); (case m2 => k_mem); (case m3 => k_mem); (case k5 => k_asm); (case kK => exact rfl); (case kd => ktr_room); (case ku => ktr_units); (case kx => with_reducible assumption); (case ky => with_reducible assumption); (case kz => with_reducible assumption)); intro t' h' tk' F' N'))
local macro_rules | `(tactic| walk_at "call ref") => `(tactic| (k_here; (with_reducible show wpAny _ _ (call (Value.ref 330) [Value.ref _]) _ _ _); k_dflt (refine' full_call ?km ?k1 ?k2 ?k3 ?k4 ?k5 ?kK ?kd ?ku ?_; (case k4 => k_asm); (case km => k_mem); (case k1 => k_asm); (case k2 => k_asm); (case k3 => k_asm); (case k5 => k_asm); (case kK => exact rfl); (case kd => ktr_room); (case ku => ktr_units)); intro t' h' tk' F' N'))
def TestOk (g : Heap) (L : Addr) (m : Str → Option Value) (led : List (Addr × Obj)) (s : Shared) (b : Bool) (s₁ : Shared) : Prop := b = true ∧ ∃ h' tk', s₁ = { s with heap := h', toks := tk' } ∧ Fr g L h' m ∧ News g L h' led
theorem C_if_true {prog : Program} {A : Around} {E : Value → Shared → Prop} {env : Env} {test : Expr} {body orelse : List Stmt} {pos : Pos} {led : List (Addr × Obj)} (_ : Fr g L s.heap m) (_ : News g L s.heap led)
    (ht : wpAny (model prog w) A (isTrue test env (eval test env)) (TestOk g L m led s) E s) (hb : ∀ h' tk', Fr g L h' m → News g L h' led → wpC (model prog w) A (execs body env) Q E { s with heap := h', toks := tk' }) : wpC (model prog w) A (exec (.If test body orelse pos) env) Q E s := by
  refine C_if (wpAny_mono ht (fun b s₁ h₁ => ?_) fun _ _ z => z)
  obtain ⟨rfl, h', tk', rfl, F', N'⟩ := h₁
  rw [if_pos rfl]
  exact hb h' tk' F' N'
set_option maxHeartbeats 8000000 in
theorem partI {fl dl tl nl : Addr} {x0 x1 x2 x3 : Str} {u0 u1 u2 u3 : Tok} {v0 v1 v2 v3 : Value} {nvs : List Value} {led : List (Addr × Obj)}
  (XB : (Mine.hd.heap_39 w.params).In base) (TB : Top pt loose mean mg mb base) (hd : dp + 60 < recursionLimit) (hu : un + 1000 < cLine)
  (J : RowSt w A₀ base fl dl tl nl [.str x0 u0, .str x1 u1, .str x2 u2, .str x3 u3] [v0, v1, v2, v3] nvs 4 g m led) (F : Fr g L s.heap m) (N : News g L s.heap led)
  (hend : ∀ s', (∀ b o, base.get? b = some o → s'.heap.get? b = some o) → (∃ ps, s'.heap.get? 237 = some (tabObj ps)) → s'.os = s.os → GBare s.gens s'.gens → Q (.ret (.bool true)) s') :
  wpC (model PySem.Challenge.rw_bq5007_01.row.prog w) (ktrTop dp un (some []) (Str.ofString "law") (lawScope w.params) L 356 (.ref 355) cl []) (execs ((lawBody w.params).drop 10) (envX (Str.ofString "law") (lawScope w.params) L 356 (.ref 355) cl)) Q E s := by
  conv in List.drop _ _ => whnf
  conv in (occs := *) lawScope _ => all_goals whnf
  obtain ⟨m0, fvs, ps, rest, B, rfl, rfl, hpl, hfl, hT, hF, hlen, hps⟩ := J
  have X := XB.keeps B.stays
  have T := TB.keeps B.stays
  have D1 : KtsDicts (fr []) g := fun _ h => nomatch h
  obtain ⟨hs0, hk0, due0⟩ : Small x0 ∧ Kind x0 ∧ DueIn x0 v0 rest := by
    obtain ⟨x, u, v, e1, e2, h1, h2, h3⟩ := hT 0 (by decide)
    cases e1; cases e2; exact ⟨h1, h2, h3⟩
  obtain ⟨hs1, hk1, due1⟩ : Small x1 ∧ Kind x1 ∧ DueIn x1 v1 rest := by
    obtain ⟨x, u, v, e1, e2, h1, h2, h3⟩ := hT 1 (by decide)
    cases e1; cases e2; exact ⟨h1, h2, h3⟩
  w_strict (
    w_top off
    refine A_cons ?_
    k_steps
    dsimp only
    refine C_cons (C_assign_name (C_call_attr (pl := _) ?_))
    k_steps
    · exact keepsOk_meth (f := 42) (self := .ref 62) (X.keeps (Fr.keep (by assumption))) (by k_is) (News.get (by assumption) (.head _))
    rename_i d5 ha oa lo5 hda l5 hb o5 hd5 hf5 hc Fc Nc q5 h5 F5 N5 l6
    have hc5 := dict_cls hd5
    have N6 : News g L h5 ((237, tabObj ps) :: (q5, methodObj (.ref 42) (.ref 62)) :: (d5, o5) :: (fl, LCg.lst fvs) :: (dl, LCg.lst [v0, v1, v2, v3]) :: (tl, LCg.lst [.str x0 u0, .str x1 u1, .str x2 u2, .str x3 u3]) :: (nl, LCg.lst nvs) :: rest) := fun q hq => N5 q (by
      simp only [lawLed, List.mem_cons] at hq ⊢
      rcases hq with h | h | h | h | h | h | h | h <;> simp only [h, true_or, or_true])
    have hcl : ∀ q ∈ (q5, methodObj (.ref 42) (.ref 62)) :: (d5, o5) :: (fl, LCg.lst fvs) :: (dl, LCg.lst [v0, v1, v2, v3]) :: (tl, LCg.lst [.str x0 u0, .str x1 u1, .str x2 u2, .str x3 u3]) :: (nl, LCg.lst nvs) :: rest, q.2.cls ≠ .none := fun q hq => by
      simp only [List.mem_cons] at hq
      rcases hq with rfl | rfl | rfl | rfl | rfl | rfl | hq
      · simp [methodObj]
      · rw [hc5]; exact nofun
      · exact nofun
      · exact nofun
      · exact nofun
      · exact nofun
      · exact (hpl q hq).1
    have p237 := (N6 _ (.head _)).2
    refine wpC_call (method_C (N5 _ (.head _)).1 ?_)
    refine rs_nts_C B F5 X N6 (.tail _ (.head _)) hcl hps hd5 lo5 T XB TB D1 rfl ?hd ?hu rfl hs0 hk0 hs1 hk1 ?good ?none
    case hd => ktr_room
    case hu => exact (show un + 500 < cLine from by omega)
    case none =>
      intro hfac ps2 hm1 h6 tk6 G6 gr R S6 gb
      obtain ⟨g2, T2, F6, N8, B2, D2⟩ := turn B (R.fr F5 p237.2 (Ne.symm p237.1)) (retab_news R N6 hcl) D1 S6
      have X2 := XB.keeps B2.stays
      have TT2 := TB.keeps B2.stays
      clear N6 N5 Nc Fc F5 X T B
      k_steps
      dsimp only
      refine A_cons ?_
      k_steps
      rename_i hA oA FA NA hdA hfA
      dsimp only
      refine C_cons (C_if_true FA NA ?test fun h7 tk7 F7 N7 => ?_)
      case test =>
        rcases due0 with ⟨_, rfl⟩ | ⟨i0, o0, D0, a1, a2, e0, rfl, m0'⟩
        · k_steps
          exact ⟨rfl, _, _, rfl, FA, NA⟩
        · rcases due1 with ⟨_, rfl⟩ | ⟨i1, o1, D1', a3, a4, e1, rfl, m1'⟩
          · k_steps
            exact ⟨rfl, _, _, rfl, FA, NA⟩
          · rcases hfac with z | z
            · rw [e0] at z; cases z
            · rw [e1] at z; cases z
      clear FA NA
      refine A_cons ?_
      k_steps
      dsimp only
      refine C_cons (C_try ?_)
      refine C_last (C_expr_raises (C_call_name ?_))
      k_steps
      · exact keepsOk_K (X2.keeps (Fr.keep (by assumption))) (by k_is)
      rename_i _ dA _ _ _ _ _ h8 F8 N8
      have hcA := dict_cls hdA
      have N9 : News g2 L h8 ((237, tabObj ps2) :: (dA, oA) :: (q5, methodObj (.ref 42) (.ref 62)) :: (d5, o5) :: (fl, LCg.lst fvs) :: (dl, LCg.lst [v0, v1, v2, v3]) :: (tl, LCg.lst [.str x0 u0, .str x1 u1, .str x2 u2, .str x3 u3]) :: (nl, LCg.lst nvs) :: rest) := fun q hq => N8 q (by
        simp only [List.mem_cons] at hq ⊢
        rcases hq with h | h | h | h | h | h | h | h | h <;> simp only [h, true_or, or_true])
      have hcl2 : ∀ q ∈ (dA, oA) :: (q5, methodObj (.ref 42) (.ref 62)) :: (d5, o5) :: (fl, LCg.lst fvs) :: (dl, LCg.lst [v0, v1, v2, v3]) :: (tl, LCg.lst [.str x0 u0, .str x1 u1, .str x2 u2, .str x3 u3]) :: (nl, LCg.lst nvs) :: rest, q.2.cls ≠ .none := fun q hq => by
        rcases List.mem_cons.mp hq with rfl | hq
        · rw [hcA]; exact nofun
        · exact hcl q hq
      have p237b := (N9 _ (.head _)).2
      refine nts_C B2 F8 X2 N9 (.tail _ (.tail _ (.head _))) hcl2 gr.1 hd5 lo5 TT2 XB TB D2 rfl ?hd2 ?hu2 rfl hs0 hk0 hs1 hk1 ?good2 ?bad2
      case hd2 => ktr_room
      case hu2 => exact (show un + 400 < cLine from by omega)
      case good2 =>
        intro r0 r1 xo dx d1 d2 dO1 dO2 k1 k2 ps3 hm2 h9 tk9 G9 f0 f1
        rcases hfac with z | z
        · rw [f0.1] at z; cases z
        · rw [f1.1] at z; cases z
      case bad2 =>
        intro _ e ctx ps3 hm2 h9 tk9 G9 gr2 R2 U9 S9 gb2
        dsimp only
        refine catch_C (T' := "ValueError") rfl rfl rfl B2 (R2.fr F8 p237b.2 (Ne.symm p237b.1)) (retab_news R2 N9 hcl2) D2 U9 (.inr (.inl rfl)) S9 (by kts_sub) (by rfl) (by kts_sub) ?_ ?_
        · intro g' s₂ Q' E' F₂ B₂ q
          have X₂ := XB.keeps B₂.stays
          have T₂ := TB.keeps B₂.stays
          k_steps
          exact q
        intro g3 h10 oe T3 F10 x10 N10 B3 D3 U10 S10
        have X3 := XB.keeps B3.stays
        have TT3 := TB.keeps B3.stays
        clear X2 TT2 B2 F8 N8 N9
        refine C_last (wpC_of ?_)
        k_steps
        dsimp only
        refine C_last (wpC_of ?_)
        k_steps
        rename_i hB FB NB
        exact hend _ (fun b o e => FB.keep b o (B3.stays b o e)) ⟨ps3, (NB (237, tabObj ps3) (.tail _ (.head _))).1⟩ rfl fun x => gb2 (gb x)
    case good =>
      intro r0 r1 xo dx d1 d2 dO1 dO2 k1 k2 ps2 hm1 h6 tk6 G6 f0 f1 hdO1 hdO2 gr R S6 N7 gb lo1 lo2
      obtain ⟨g2, T2, F6, N8, B2, D2⟩ := turn B (R.fr F5 p237.2 (Ne.symm p237.1)) (retab_news R N6 hcl) D1 S6
      have N9 := news_app (news_turn N7 T2) N8
      obtain ⟨D0, a1, a2, rfl, hD0⟩ : ∃ D0 a1 a2, v0 = .ref D0 ∧ (D0, dueObj r0.i r0.oo a1 a2) ∈ rest := by
        rcases due0 with ⟨e0, _⟩ | ⟨i', o', Dd, a1, a2, e0, ev, hm⟩
        · rw [f0.1] at e0; cases e0
        · rw [f0.1] at e0; cases e0; exact ⟨Dd, a1, a2, ev, hm⟩
      obtain ⟨D1', a3, a4, rfl, hD1⟩ : ∃ D0 a1 a2, v1 = .ref D0 ∧ (D0, dueObj r1.i r1.oo a1 a2) ∈ rest := by
        rcases due1 with ⟨e0, _⟩ | ⟨i', o', Dd, a1, a2, e0, ev, hm⟩
        · rw [f1.1] at e0; cases e0
        · rw [f1.1] at e0; cases e0; exact ⟨Dd, a1, a2, ev, hm⟩
      obtain ⟨_, b1, b2, b3⟩ := f0
      obtain ⟨_, c1, c2, c3⟩ := f1
      have N10 := news_cons (news_cons N9 (p := (D0, dueObj r0.i r0.oo a1 a2)) (by simp [hD0])) (p := (D1', dueObj r1.i r1.oo a3 a4)) (by simp [hD1])
      simp only [rfNews, ntD, List.cons_append, List.nil_append] at N10
      have hd2 : dO2.IsDictOf (PySem.strKind PySem.Challenge.rw_bq5007_01.row.prog w) [(Str.ofString "5", .int (fullV r0.i r0.oo) r0.t3), (Str.ofString "7", .int (fullV r1.i r1.oo) r1.t3)] := hdO2
      have hf2 : PyProof.V.FlatPairs PyData.str [(Str.ofString "5", Value.int (fullV r0.i r0.oo) r0.t3), (Str.ofString "7", .int (fullV r1.i r1.oo) r1.t3)] [(PyData.str (Str.ofString "5"), PyData.int (fullV r0.i r0.oo)), (PyData.str (Str.ofString "7"), PyData.int (fullV r1.i r1.oo))] := .cons (.int _ _) (.cons (.int _ _) .nil)
      have hd1 : dO1.IsDictOf (PySem.strKind PySem.Challenge.rw_bq5007_01.row.prog w) [(Str.ofString "5", .ref r0.xx), (Str.ofString "7", .ref r1.xx)] := hdO1
      have X2 := XB.keeps B2.stays
      have TT2 := TB.keeps B2.stays
      clear hdO1 hdO2
      clear N9 N8 N7 N6 N5 Nc Fc F5 X T B
      k_steps
      dsimp only
      refine A_cons ?_
      k_steps
      dsimp only
      refine A_cons ?_
      k_steps
      dsimp only
      refine A_cons ?_
      k_steps
      rename_i hB oB FB NB hdB hfB
      dsimp only
      have e : (fun y => if y = Str.ofString "made" then some (Value.ref xo) else if y = Str.ofString "handed" then some (.ref d5) else lawMap fl dl tl nl m0 y) = fun y => if y = Str.ofString "made" then some (.ref xo) else if y = Str.ofString "dues" then some (.ref dl) else if y = Str.ofString "made" then some (Value.ref xo) else if y = Str.ofString "handed" then some (.ref d5) else lawMap fl dl tl nl m0 y := by
        funext y
        by_cases z1 : y = Str.ofString "made"
        · rw [if_pos z1, if_pos z1]
        · by_cases z2 : y = Str.ofString "dues"
          · subst z2; rfl
          · rw [if_neg z1, if_neg z1, if_neg z2]
      rw [e] at FB
      refine partJ (rest := [v2, v3]) (ps := ps2) (dO1 := dO1) (r0 := r0) (r1 := r1) (D0 := D0) (D1 := D1') (a1 := a1) (a2 := a2) (a3 := a3) (a4 := a4) (k1 := k1) (k2 := k2) (d1 := d1) (d2 := d2) (xo := xo) (dx := dx) (dl := dl) B2 XB TB hd hu b1 b2 b3 c1 c2 c3 hd1 lo1 FB (fun q hq => NB q ?_) fun h' tk' z1 z2 => hend _ z1 z2 rfl gb
      simp only [List.mem_cons, List.not_mem_nil, or_false] at hq ⊢
      rcases hq with h | h | h | h | h | h | h | h | h | h | h <;> simp only [h, true_or, or_true])
end
end Mine
end PartF11

local macro_rules | `(tactic| walk_at "no key") => `(tactic| fail)
local macro_rules | `(tactic| walk_at "no key") => `(tactic| fail)
local macro_rules | `(tactic| walk_at "no key") => `(tactic| fail)
local macro_rules | `(tactic| walk_at "no key") => `(tactic| fail)
local macro_rules | `(tactic| walk_at "no key") => `(tactic| fail)
local macro_rules | `(tactic| walk_at "no key") => `(tactic| fail)
local macro_rules | `(tactic| walk_at "no key") => `(tactic| fail)
section PartF13
open PySem PySem.W PyProof.Rows PySem.Calls PySem.Spec
set_option linter.all false
set_option maxRecDepth 100000
namespace Mine
theorem ints5 {ys : List Value} {ns : List Int} (h : IntsAre ys ns) (hl : ns.length = 5) : ∃ n0 t0 n1 t1 n2 t2 n3 t3 n4 t4, ys = [.int n0 t0, .int n1 t1, .int n2 t2, .int n3 t3, .int n4 t4] := by
  match ns, hl with
  | [n0, n1, n2, n3, n4], _ =>
    obtain ⟨t0, w0, e0, h0⟩ := h.cons_inv
    obtain ⟨t1, w1, e1, h1⟩ := h0.cons_inv
    obtain ⟨t2, w2, e2, h2⟩ := h1.cons_inv
    obtain ⟨t3, w3, e3, h3⟩ := h2.cons_inv
    obtain ⟨t4, w4, e4, h4⟩ := h3.cons_inv
    have e5 := h4.nil_inv
    subst e5 e4 e3 e2 e1 e0
    exact ⟨_, _, _, _, _, _, _, _, _, _, rfl⟩
section
variable {pt : Program} {w : World} {mean : ExcName → Option Value} {mg mb : Str → Option Value} {s₁ : Shared} {Q : Value → Shared → Prop} {loose : List Str} {l : Addr} {vals : List Value} {ns : List Int}
theorem law_end {s' : Shared} (hT : TabsAt [(241, 237)] s₁.heap) (hk : ∀ b o, (ghostOf s₁.heap [(241, 237)]).get? b = some o → s'.heap.get? b = some o) (h2 : ∃ ps, s'.heap.get? 237 = some (tabObj ps)) (ho : s'.os = s₁.os) (hg : AllBare s'.gens) : LawEnd s₁ s' := by
  obtain ⟨ps, hP⟩ := h2
  have h1 := hT _ (.head _)
  refine ⟨⟨fun b o e => ?_, fun b o e => ?_⟩, ho, hg⟩
  · by_cases z : b = 237
    · subst z
      rw [h1.2] at e; cases e
      exact .inr (.inl ⟨(h1.1.tab h1.2).isCodeTable, rfl, #[], ps, rfl, by rw [Array.empty_append]; exact hP⟩)
    · exact .inl (hk b o (ghost_ne e (by simpa using z)))
  · by_cases z : b = 237
    · subst z; exact ⟨_, hP⟩
    · exact ⟨o, hk b o (ghost_ne e (by simpa using z))⟩
local macro_rules | `(tactic| ke_room) => `(tactic| ktr_units)
local macro_rules | `(tactic| k_units) => `(tactic| ktr_units)
local macro_rules | `(tactic| k_room) => `(tactic| ktr_room)
local macro_rules | `(tactic| walk_at "StrBack") => `(tactic| (k_dflt (dsimp only [StrBack]); (try k_fold)))
local macro_rules | `(tactic| walk_at "CmpBack") => `(tactic| (k_dflt (dsimp only [CmpBack]); (try k_fold)))
set_option maxHeartbeats 8000000 in
theorem law_walk (T : Top pt loose mean mg mb s₁.heap) (X : (Mine.hd.heap_39 w.params).In s₁.heap) (h237 : s₁.heap.get? 237 = some (tabObj #[])) (hl : s₁.heap.IsList l vals.toArray) (hI : IntsAre vals ns) (hlen : ns.length ≤ 63) (hg : s₁.gens = #[])
  (hQ : ∀ s', LawEnd s₁ s' → Q (.bool true) s') :
  wpC (model PySem.Challenge.rw_bq5007_01.row.prog w) callerA (call (.ref 356) [.ref l]) Q (fun _ _ => False) s₁ := by
  have hT9 : TabsAt [(241, 237)] s₁.heap := List.forall_mem_cons.mpr ⟨⟨codeHd_of_K X (by kernel_rfl), h237⟩, fun _ h => nomatch h⟩
  w_strict (
    w_top off
    refine wpC_call ?_
    (refine' enter_cells X T.nolimit ?k6 ?k7 ?k8 ?k9 ?kB ?c5 ?_ ?c2 ?c3 ?c4); (case k6 => k_is); (case k7 => k_is); (case k8 => decide +kernel); (case k9 => exact BindsTo.of_eq rfl); (case c5 => decide); (case kB => exact fun n => kinds_of (by kinds_ok)); (case c2 => exact rfl); (case c3 => exact rfl); (case c4 => exact rfl); k_whole
    intro L' h₁ tk cells hL' F N Y
    cells_open Y
    kn_ghosts F T
    have fin : ∀ s' : Shared, (∀ b o, (ghostOf s₁.heap [(241, 237)]).get? b = some o → s'.heap.get? b = some o) → (∃ ps, s'.heap.get? 237 = some (tabObj ps)) → s'.os = s₁.os → GBare s₁.gens s'.gens → Q (.bool true) s' := fun s' a b c d => hQ s' (law_end hT9 a b c (d (by rw [hg]; exact fun _ hx => by simp at hx)))
    generalize hg0 : ghostOf s₁.heap [(241, 237)] = g0 at *
    have hl' : g0.IsList l vals.toArray := by assumption
    have X0 : (Mine.hd.heap_39 w.params).In g0 := by assumption
    have B0 : Below callerA g0 [] g0 := by assumption
    obtain ⟨loose', T0⟩ : ∃ loose', Top topProg loose' mean mg mb g0 := ⟨_, by assumption⟩
    refine (show wpC _ (ktrTop _ _ (some []) _ _ _ _ _ _ []) (execs _ (envX _ _ _ _ _ _)) _ _ _ from ?_)
    refine A_cons ?_
    k_steps
    rename_i hZ gZ ys hI8 hL8 D h2 tk2 F2 N2 o2
    obtain ⟨n0, t0, n1, t1, n2, t2, n3, t3, n4, t4, rfl⟩ := ints5 hI8 (by rw [List.length_map, rangeKs_length]; rfl)
    have hdd : callerA.depth + 1 + 60 < recursionLimit := by decide +kernel
    have huu : callerA.units + 3 + 1000 < cLine := by decide +kernel
    have sk : ∀ n, Small (drawn n) ∧ Kind (drawn n) := fun n => kind_of (ok_drawn n)
    have tok0 : TriplesOk (#[] : Array Value).toList := True.intro
    clear hI8 hL8 o2
    refine partB (ps := #[]) (n0 := n0) (n1 := n1) (n2 := n2) (n3 := n3) (n4 := n4) (t0 := t0) (t1 := t1) (t2 := t2) (t3 := t3) (t4 := t4) B0 X0 T0 hdd huu F2 (fun q hq => N2 q ?_) fun tl u0 u1 u2 u3 hB tkB FB NB => ?_
    · rcases List.mem_cons.mp hq with h | h
      · rw [h]; exact .head _
      · exact .tail _ (.tail _ h)
    with_reducible refine partC (ps := #[]) B0 X0 T0 hdd huu FB NB (fun x hx => ?_) fun dl v0 v1 v2 v3 rest hC tkC hpl due0 due1 due2 due3 FC NC => ?_
    · simp only [List.mem_cons, List.not_mem_nil, or_false] at hx
      rcases hx with rfl | rfl | rfl | rfl <;> exact sk _
    with_reducible refine partD (ps := #[]) B0 X0 T0 hdd huu FC NC hpl ?_ tok0 fun fl g1 m1 led1 hD tkD J FD ND => ?_
    · intro i hi
      rcases (show i = 0 ∨ i = 1 ∨ i = 2 ∨ i = 3 by omega) with rfl | rfl | rfl | rfl
      · exact ⟨_, _, _, rfl, rfl, (sk _).1, (sk _).2, due0⟩
      · exact ⟨_, _, _, rfl, rfl, (sk _).1, (sk _).2, due1⟩
      · exact ⟨_, _, _, rfl, rfl, (sk _).1, (sk _).2, due2⟩
      · exact ⟨_, _, _, rfl, rfl, (sk _).1, (sk _).2, due3⟩
    with_reducible refine partE X0 T0 hdd huu J FD ND fun m2 hE tkE J FE NE => ?_
    with_reducible refine partF X0 T0 hdd huu J FE NE fun m3 hF tkF J FF NF => ?_
    with_reducible refine partG X0 T0 hdd huu J FF NF fun g4 m4 hG tkG J FG NG => ?_
    with_reducible refine partH X0 T0 hdd huu J FG NG fun g5 hH tkH J FH NH => ?_
    with_reducible refine partI X0 T0 hdd huu J FH NH fun s' a b c d => ?_
    exact fin s' a b c d)
end
end Mine
end PartF13

section PartF14
open PySem PySem.W PyProof.Rows PySem.Calls PySem.Spec
namespace Mine
theorem post_true (ns : List Int) : PySem.Challenge.rw_bq5007_01.row.claim.post [ofPy (PyData.list (List.map PyData.int ns))] (WData.bool true) [ofPy (PyData.list (List.map PyData.int ns))] = true := by
  first
    | (with_unfolding_all rfl)
    | (exact postW_of (by wrow_shape) (by wtm_val) (by str_meet; first | done | w_fin))
    | decide
end Mine
end PartF14

section PartF1
open PySem PySem.W PyProof.Rows PySem.Calls PySem.Spec
set_option linter.all false
namespace Mine
set_option maxRecDepth 100000 in
set_option maxHeartbeats 8000000 in
theorem fin : PySem.Challenge.rw_bq5007_01.Holds := by
  w_on; o_law
  o_head (kmHook Mine.hd.heap_39 [2, 3, 15, 17, 18, 20, 21, 22, 24, 25, 27, 28, 29, 36, 38, 39, 41, 42, 43, 44, 45, 46, 48, 49, 51, 52, 53, 55, 56, 58, 59, 60, 61, 62, 63, 64, 67, 74, 76, 77, 79, 80, 81, 83, 84, 86, 87, 88, 89, 90, 91, 92, 95, 102, 104, 105, 107, 108, 109, 111, 112, 114, 115, 116, 118, 119, 121, 122, 123, 125, 126, 128, 129, 130, 131, 132, 135, 142, 143, 145, 146, 148, 149, 150, 152, 153, 155, 156, 157, 158, 159, 160, 162, 163, 165, 166, 167, 169, 170, 172, 173, 174, 175, 176, 177, 178, 181, 188, 190, 191, 193, 194, 195, 196, 198, 199, 201, 202, 203, 205, 206, 208, 209, 210, 212, 213, 215, 216, 217, 219, 220, 222, 223, 224, 225, 226, 229, 236, 238, 239, 241, 242, 243, 245, 246, 248, 249, 250, 252, 253, 255, 256, 257, 259, 260, 262, 263, 264, 265, 266, 269, 276, 278, 279, 281, 282, 283, 285, 286, 288, 289, 290, 292, 293, 295, 296, 297, 299, 300, 302, 303, 304, 305, 306, 309, 310, 312, 313, 315, 316, 317, 319, 320, 322, 323, 324, 326, 327, 329, 330, 331, 333, 334, 336, 337, 338, 340, 341, 343, 344, 345, 347, 348, 350, 351, 352, 355, 356] (fun _ => by kernel_rfl) [237])
  case hw => w_witness2
  intro w s₀ s₁ mg mb G Y fa o pm cd doc dV kV ho hd hcd hD hmg hg args vals as hpre hlay hrd hwl hlo
  have KX := km_in_of Y
  km_tabs Y
  have X := (Ground.X G).1
  have V := (Ground.X G).2
  refine Ground.open G ?_
  intro T B D TE TW
  try (refine guard_noD D (by decide +kernel) ?_; clear D)
  have hm : mg (Str.ofString "law") = some (.ref 356) := ns_some_of KX T.g (by kernel_rfl)
  obtain rfl : fa = 356 := by
    have h2 : some (Value.ref fa) = some (.ref 356) := hmg.symm.trans hm
    injection h2 with h2
    injection h2
  wrow_args hpre hlay hrd hwl hlo
  rename_i ns _ _ _ _ _ _ _ l vals _ hL _ _ _ hI _ hcond _
  refine wpC_mono (law_walk (Q := fun v s' => v = .bool true ∧ LawEnd s₁ s') T KX (hT8 237 (.head _)) hL hI (by omega) hg fun s' he => ⟨rfl, he⟩) (fun v s' hv => ?_) fun _ _ z => z.elim
  obtain ⟨rfl, hk, ho', hg'⟩ := hv
  refine ⟨.inl ⟨.bool true, .bool true, [], rfl, fun cls => ?_, .bool _, ?_, fun _ => ⟨List.nodup_nil, fun _ h => nomatch h⟩⟩, hk, ho', hg'⟩
  · rfl
  · exact post_true ns
end Mine
end PartF1

theorem PySem.Challenge.cw_bq5007_01_holds : PySem.Challenge.rw_bq5007_01.Holds :=
  Mine.fin
