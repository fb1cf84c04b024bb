import PyProof.Rows.All
import Wide.All
import OpenK.AllK
import Wide.FinOn
import Lean
import PySem.Challenge.RW_in0098_01
set_option Elab.async false
set_option maxRecDepth 100000
set_option linter.unusedVariables false
set_option linter.unusedSimpArgs false

section
open PySem PySem.W PyProof.Rows
namespace Mine
open Sem (wp)

/-- a caller of the claim stands on the stack -/
def HasC (l : List (Code × Pos)) : Prop := (l.map (·.1)).any Code.isCaller = true
def Cal (Γ : Ctx) : Prop := HasC ((Γ.code, default) :: Γ.below)
theorem Cal.below {Γ : Ctx} (h : Cal Γ) (p : Pos) : HasC ((Γ.code, p) :: Γ.below) := by
  unfold Cal HasC at *
  simpa using h
theorem Cal.of_below {Γ : Ctx} (h : HasC Γ.below) : Cal Γ := by
  unfold Cal HasC at *
  simp only [List.map_cons, List.any_cons, Bool.or_eq_true]
  exact .inr h

def wpC {α : Type} (M : Model) (A : Around) (t : Sem α) (Q : α → Shared → Prop) (E : Value → Shared → Prop) (s : Shared) : Prop :=
  ∀ Γ p, Γ.In A → Cal Γ → wp M Γ t (fun a _ s' => Q a s') (fun e _ s' => E e s') p s
def codeC (M : Model) (A : Around) (c : Code) (R : Result → Shared → Prop) (s : Shared) : Prop :=
  ∀ Γ p, Γ.code = c → Γ.Below A → HasC Γ.below → wpCode M Γ R p s

section
variable {α β : Type} {M : Model} {A : Around} {E : Value → Shared → Prop} {s : Shared}

theorem wpC_of_any {t : Sem α} {Q : α → Shared → Prop} (h : wpAny M A t Q E s) : wpC M A t Q E s := fun Γ p hΓ _ => h Γ p hΓ
theorem codeC_of_any {c : Code} {R : Result → Shared → Prop} (h : codeAny M A c R s) : codeC M A c R s := fun Γ p hc hΓ _ => h Γ p hc hΓ
theorem wpC_pure {a : α} {Q : α → Shared → Prop} (h : Q a s) : wpC M A (pure a) Q E s := fun _ _ _ _ => h
theorem wpC_mono {t : Sem α} {Q Q' : α → Shared → Prop} {E' : Value → Shared → Prop} (h : wpC M A t Q E s)
    (hQ : ∀ a s, Q a s → Q' a s) (hE : ∀ e s, E e s → E' e s) : wpC M A t Q' E' s :=
  fun Γ p hΓ hc => Sem.wp_mono M Γ t (fun a _ s => hQ a s) (fun e _ s => hE e s) p s (h Γ p hΓ hc)
theorem wpC_bind {m : Sem α} {f : α → Sem β} {Q : β → Shared → Prop} (h : wpC M A m (fun a s' => wpC M A (f a) Q E s') E s) :
    wpC M A (m >>= f) Q E s := fun Γ p hΓ hc => by
  rw [Sem.wp_bind']
  exact Sem.wp_mono M Γ m (fun a p' s' h' => h' Γ p' hΓ hc) (fun _ _ _ h' => h') p s (h Γ p hΓ hc)
/-- the first part is a leaf -/
theorem wpC_bindL {m : Sem α} {f : α → Sem β} {Q : β → Shared → Prop} (h : wpAny M A m (fun a s' => wpC M A (f a) Q E s') E s) :
    wpC M A (m >>= f) Q E s := wpC_bind (wpC_of_any h)
theorem wpC_tryCatch {m : Sem α} {k : Value → Sem α} {Q : α → Shared → Prop} (h : wpC M A m Q (fun e s' => wpC M A (k e) Q E s') s) :
    wpC M A (tryCatch m k) Q E s := fun Γ p hΓ hc => by
  rw [Sem.wp_tryCatch']
  exact Sem.wp_mono M Γ m (fun _ _ _ h' => h') (fun e p' s' h' => h' Γ p' hΓ hc) p s (h Γ p hΓ hc)
theorem wpC_onRaise {m : Sem α} {k : Value → Sem Unit} {Q : α → Shared → Prop}
    (h : wpC M A m Q (fun e s' => wpC M A (k e) (fun _ s'' => E e s'') E s') s) : wpC M A (m.onRaise k) Q E s := fun Γ p hΓ hc => by
  rw [Sem.wp_onRaise]
  exact Sem.wp_mono M Γ m (fun _ _ _ h' => h') (fun e p' s' h' => h' Γ p' hΓ hc) p s (h Γ p hΓ hc)
theorem wpC_attempt {m : Sem α} {Q : Except Value α → Shared → Prop} (h : wpC M A m (fun a => Q (.ok a)) (fun e => Q (.error e)) s) :
    wpC M A m.attempt Q E s := fun Γ p hΓ hc => by rw [Sem.wp_attempt]; exact h Γ p hΓ hc
theorem wpC_holding {vs : List Value} {m : Sem α} {Q : α → Shared → Prop} (h : wpC M A m Q E s) : wpC M A (holding vs m) Q E s :=
  fun Γ p hΓ hc => by rw [Sem.wp_holding]; exact h Γ p hΓ hc
theorem wpC_keep {vs : List Value} {m : Sem α} {Q : α → Shared → Prop} (h : wpC M A m Q E s) : wpC M A (m.keep vs) Q E s :=
  fun Γ p hΓ hc => by rw [Sem.wp_keep]; exact h Γ p hΓ hc
theorem wpC_standAt {pos : Pos} {Q : Unit → Shared → Prop} (h : Q () s) : wpC M A (standAt pos) Q E s := fun _ _ _ _ => h
theorem wpC_rule {tag : String} {Q : Unit → Shared → Prop} (h : Q () s) : wpC M A (rule tag) Q E s := fun _ _ _ _ => h
theorem wpC_point {Q : Unit → Shared → Prop} (h : Q () s) : wpC M A point Q E s := fun _ _ _ _ => h
theorem wpC_throw {e : Value} {Q : α → Shared → Prop} (h : E e s) : wpC M A (throw e : Sem α) Q E s := fun _ _ _ _ => h
theorem wpC_stack {Q : List (Code × Pos) → Shared → Prop} (h : ∀ st, HasC st → Q st s) : wpC M A stack Q E s := fun Γ p _ hc => by
  show Q ((Γ.code, p) :: Γ.below) s
  exact h _ (hc.below p)
theorem wpC_of_eq {t : Sem α} {a : α} {Q : α → Shared → Prop} (e : t = pure a) (h : Q a s) : wpC M A t Q E s := by rw [e]; exact wpC_pure h

theorem codeC_mono {c : Code} {R R' : Result → Shared → Prop} (h : codeC M A c R s) (hR : ∀ r s, R r s → R' r s) : codeC M A c R' s :=
  fun Γ p hc hΓ hb => wpCode_mono hR (h Γ p hc hΓ hb)

theorem wpC_run {c : Code} {h : Option Value} {Q : Flow → Shared → Prop}
    (hc : codeC M (A.mark h) c (fun r s' => match r with | .ok f => Q f s' | .error e => E e s') s) (hnb : h ≠ some byPass := by intro x; cases x) :
    wpC M A (run c h) Q E s :=
  fun Γ p hΓ hb => by rw [Sem.wp_run]; exact hc _ p rfl (hΓ.enter c h p hnb) (hb.below p)
theorem wpC_runValue {c : Code} {Q : Value → Shared → Prop}
    (hc : codeC M A c (fun r s' => match r with | .ok (.ret v) => Q v s' | .ok _ => False | .error e => E e s') s) :
    wpC M A (runValue c) Q E s := fun Γ p hΓ hb => by rw [Sem.wp_runValue]; exact hc _ p rfl (hΓ.enter c none p (by intro x; cases x)) (hb.below p)
theorem wpC_call {f : Value} {pos : List Value} {kw : List (Str × Value)} {Q : Value → Shared → Prop}
    (hc : codeC M A (.call f ⟨pos, kw⟩) (fun r s' => match r with | .ok (.ret v) => Q v s' | .ok _ => False | .error e => E e s') s) :
    wpC M A (call f pos kw) Q E s := wpC_runValue hc

theorem codeC_of_tree {c : Code} {R : Result → Shared → Prop}
    (h : wpC M (A.under c) (M.den c) (fun fin s' => match fin with | .done f => R (.ok f) s' | .again c' => c'.quiet = true ∧ codeC M A c' R s')
      (fun e s' => R (.error e) s') s) : codeC M A c R s := fun Γ p hc hΓ hb => by
  rw [wpCode_iff_wp, hc]
  refine Sem.wp_mono M Γ _ (fun fin p' s' h' => ?_) (fun _ _ _ h' => h') p s (h Γ p (hc ▸ hΓ.in) (Cal.of_below hb))
  cases fin with
  | done f => exact h'
  | again c' => exact ⟨h'.1, h'.2 (Γ.goto c') p' rfl (hΓ.goto c') hb⟩
theorem codeC_loop' {c : Code} {R : Result → Shared → Prop} (hq : c.quiet = true) (I : Nat → Shared → Prop)
    (turn : ∀ n s, I n s → wpC M (A.under c) (M.den c)
      (fun fin s' => match fin with
        | .done f => R (.ok f) s'
        | .again c' => (c' = c ∧ ∃ m, m < n ∧ I m s') ∨ (c'.quiet = true ∧ codeC M A c' R s')) (fun e s' => R (.error e) s') s)
    (n : Nat) (h : I n s) : codeC M A c R s := by
  induction n using Nat.strongRecOn generalizing s with
  | ind n ih =>
    refine codeC_of_tree (wpC_mono (turn n s h) (fun fin s' hf => ?_) fun _ _ h' => h')
    cases fin with
    | done f => exact hf
    | again c' =>
      rcases hf with ⟨rfl, m, hm, hI⟩ | hf
      · exact ⟨hq, ih m hm hI⟩
      · exact hf
end

section
variable {prog : Program} {w : World} {A : Around} {E : Value → Shared → Prop} {R : Result → Shared → Prop} {s : Shared}

/-- a built-in's code -/
theorem codeC_builtin {id : String} {args : Args} {b : Builtin} (hb : entryFor table id = some b)
    (h : wpC (model prog w) (A.under (.builtin id args)) (b args) (fun fin s' => match fin with | .done f => R (.ok f) s' | .again c' => c'.quiet = true ∧ codeC (model prog w) A c' R s') (fun e s' => R (.error e) s') s) :
    codeC (model prog w) A (.builtin id args) R s := by
  refine codeC_of_tree ?_
  show wpC _ _ (match entryFor table id with | some b => b args | none => unsupported ((withoutEnding? id "#data").getD id)) _ _ s
  rw [hb]; exact h
theorem codeC_call_builtin {id : String} {args : Args} {b : Builtin} (hp : plainId id = true) (hb : entryFor table id = some b)
    (h : wpAny (model prog w) A.in1 (checkBuiltinCall id args) (fun _ s₁ => wpC (model prog w) A.in1 (b args) (fun fin s' => match fin with | .done f => R (.ok f) s' | .again c' => c'.quiet = true ∧ codeC (model prog w) A c' R s') (fun e s' => R (.error e) s') s₁)
      (fun e s' => R (.error e) s') s) : codeC (model prog w) A (.call (.builtin id) args) R s := by
  refine codeC_of_tree ?_
  show wpC _ A.in1 (do checkBuiltinCall id args; again (.builtin id args)) _ _ s
  refine wpC_bindL (wpAny_mono h (fun _ s₁ h₁ => wpC_pure (And.intro (plainId_quiet hp _) (codeC_builtin hb ?_))) fun _ _ h' => h')
  rw [Around.under_plainId hp]
  exact h₁

theorem codeC_func {body env}
    (h : wpC (model prog w) (A.deeper env) (execs body env) (fun f s' => R (.ok (.ret (match f with | .ret v => v | _ => .none))) s')
      (fun e s' => wpAny (model prog w) (A.deeper env) (leaving env e) (fun _ s'' => R (.error e) s'') (fun e' s'' => R (.error e') s'') s') s) :
    codeC (model prog w) A (.func body env) R s := by
  refine codeC_of_tree ?_
  show wpC _ (A.deeper env) (do point; match ← (execs body env).onRaise (leaving env) with | .ret v => ret v | _ => ret .none) _ _ s
  refine wpC_bind (wpC_point (wpC_bind (wpC_onRaise (wpC_mono h (fun f s' h' => ?_) fun _ _ h' => wpC_of_any h'))))
  cases f <;> exact wpC_pure h'

theorem codeC_call_function {a : Addr} {args : Args} {o : Obj} {fd : FuncData} {body : List Stmt} (hroom : A.depth < recursionLimit)
    (ho : s.heap.get? a = some o)
    (hd' : o.data = .func fd) (hco : fd.scope.isCoroutine = false) (hgen : fd.scope.isGenerator = false) (hbody : fd.body = .stmts body) (hcd : s.heap.CodeRec fd.code fd.qualname)
    (h : wpAny (model prog w) A.in1 (bindArgs fd args) (fun binds s₁ =>
      wpAny (model prog w) A.in1 (newFunctionEnv fd.scope fd.globals fd.closure binds (fd.qualname ++ ".<locals>.") (some a) fd.code none fd.builtins)
        (fun env s₂ => s₂.heap.NoLimit ∧ codeC (model prog w) A (.func body env) R s₂) (fun e s' => R (.error e) s') s₁) (fun e s' => R (.error e) s') s) :
    codeC (model prog w) A (.call (.ref a) args) R s := by
  refine codeC_of_tree (wpC_of_any ?_)
  show wpAny _ A.in1 (callAny (.ref a) args) _ _ s
  simp only [callAny]
  refine wpAny_bind (wpAny_load ho ?_)
  obtain ⟨c, oc, vs, tq, hc, hoc, hdc, hq⟩ := hcd
  simp only [hd', callFunction, hco, hgen, hbody, hc]
  rw [hc] at h
  refine wpAny_bind (m := field (.ref c) 1) (wpAny_field hoc hdc hq (wpAny_bind (wpAny_pure ?_)))
  exact wpAny_bind (wpAny_mono h (fun binds s₁ h₁ => wpAny_bind (wpAny_mono h₁ (fun env s₂ h₂ => wpAny_bind (wpAny_enterFrame h₂.1 hroom
    (wpAny_pure (And.intro rfl h₂.2)))) fun _ _ h' => h')) fun _ _ h' => h')
end
end Mine
end

section
open PySem PySem.W PyProof.Rows
namespace Mine
open Sem (wp)
open PySem.NumText
open PySem.Builtin PySem.Builtin.Int

/-- an exception that was just made, with its one argument and its context -/
structure MadeX (h h' : Heap) (e : Addr) (cls : String) (ctx : Value) (args : List Value) : Prop where
  keeps : ∀ b o, h.get? b = some o → h'.get? b = some o
  new : h.get? e = none
  there : ∃ t, h'.get? e = some { cls := .type cls, data := .fields #[.ref t, .none, ctx, .none, .bool false, .none] } ∧ h.get? t = none ∧ t ≠ e ∧
    h'.get? t = some { cls := .type "tuple", data := .seq args.toArray }

def noNumber (x : PySem.Str) : PySem.Str := (("invalid literal for int() with base 10: " : String) : PySem.Str) ++ (⟨(reprText x).cps.extract 0 200⟩ : PySem.Str)

theorem limit_step {M : Model} {A : Around} {E : Value → Shared → Prop} {s : Shared} {Q : Value → Shared → Prop} {c : Prop} [Decidable c] (hc : c) {K : Nat → Sem Value} {B : Sem Value}
    (h : wpC M A (K 0) Q E s) : wpC M A (if c then (do let l ← (pure 0 : Sem Nat); K l) else B) Q E s := by
  rw [if_pos hc]
  exact wpC_bindL (wpAny_pure h)
theorem ite_step {M : Model} {A : Around} {E : Value → Shared → Prop} {s : Shared} {Q : Value → Shared → Prop} {c : Prop} [Decidable c] (hc : ¬ c) {B K : Sem Value}
    (h : wpC M A K Q E s) : wpC M A (if c then B else K) Q E s := by
  rw [if_neg hc]
  exact h

theorem not_marked {st : List (Code × Pos)} (h : HasC st) (own : List String) : pythonCodeMadeTheCall own (st.map (·.1)) = false := by
  show (!(st.map (·.1)).any Code.isCaller && _ && _) = false
  rw [show (st.map (·.1)).any Code.isCaller = true from h]
  rfl
theorem wpC_mark {M : Model} {A : Around} {E : Value → Shared → Prop} {s : Shared} {own : List String} {e : Value} {Q : Unit → Shared → Prop} (h : Q () s) :
    wpC M A (markTheRefusal own e) Q E s := by
  unfold markTheRefusal
  refine wpC_bind (wpC_stack fun st hst => ?_)
  rw [not_marked hst, if_neg Bool.false_ne_true]
  exact wpC_pure h

/-- the new exception goes: its context is what is being handled -/
def ctxOf (A : Around) : Value := A.handled.getD .none
/-- what is being handled stands there, with no context of its own -/
def HandledOk (A : Around) (h : Heap) : Prop := ∀ v, A.handled = some v → ∃ a o vs, v = .ref a ∧ h.get? a = some o ∧ o.data = .fields vs ∧ vs[2]? = some .none

theorem entry_unchain : entryFor table "proto.unchain" = some Builtin.«proto.unchain» := entryFor_of_tree (by kernel_rfl)

theorem raiseNew_made {prog : Program} {w : World} {α : Type} {A : Around} {E : Value → Shared → Prop} {s : Shared} {h₀ : Heap} {e : Addr} {cls : String} {args : List Value} {Q : α → Shared → Prop}
    (hm : Heap.MadeExc h₀ s.heap e cls args) (hA : HandledOk A h₀)
    (h : ∀ h', MadeX h₀ h' e cls (ctxOf A) args → E (.ref e) { s with heap := h' }) : wpAny (model prog w) A (raiseNew (.ref e) : Sem α) Q E s := by
  obtain ⟨hk, hn, t, ht, htn, htt⟩ := hm
  have hte : t ≠ e := fun q => by rw [q, ht] at htt; simp at htt
  unfold raiseNew
  refine wpAny_bind (wpAny_handled ?_)
  cases hh : A.handled with
  | none =>
    dsimp only
    first
      | exact wpAny_bind (wpAny_pure (wpAny_throw (h _ ⟨hk, hn, t, by rw [ht]; simp [ctxOf, hh], htn, hte, htt⟩)))
      | exact wpAny_throw (h _ ⟨hk, hn, t, by rw [ht]; simp [ctxOf, hh], htn, hte, htt⟩)
  | some v =>
    obtain ⟨a, o, vs, rfl, ho, hd, h2⟩ := hA v hh
    have hae : a ≠ e := fun q => by rw [← q, ho] at hn; cases hn
    dsimp only
    rw [if_pos (show (Value.ref a != Value.ref e) = true by simp [hae])]
    have hoS := hk a o ho
    have hun : wpAny (model prog w) A (holding [.ref e] (runValue (.builtin "proto.unchain" ⟨[.ref e, .ref a, .ref a, .bool false], []⟩))) (fun _ s' => s' = s) (fun _ _ => False) s := by
      refine wpAny_holding (wpAny_runValue (codeAny_builtin entry_unchain ?_))
      unfold Builtin.«proto.unchain»
      dsimp only
      refine wpAny_bind (wpAny_field hoS hd h2 ?_)
      rw [if_pos (show (Value.none == Value.none) = true by rfl)]
      exact wpAny_pure rfl
    refine wpAny_bind (wpAny_mono hun (fun _ s' q => ?_) fun _ _ q => q.elim)
    subst q
    refine wpAny_bind ?_
    show wpAny _ _ (setField (.ref e) 2 (.ref a)) _ _ _
    refine wpAny_setField ht rfl (by simp) (wpAny_throw ?_)
    refine h _ ⟨fun b o hb => ?_, hn, t, ?_, htn, hte, ?_⟩
    · have hbe : b ≠ e := fun q => by rw [q, hn] at hb; cases hb
      exact (Heap.get?_update_ne _ _ _ _ hbe).trans (hk b o hb)
    · rw [Heap.get?_update_self _ ht rfl]
      simp [Obj.mapFields, ctxOf, hh]
    · exact (Heap.get?_update_ne _ _ _ _ hte).trans htt
end Mine
end

section
open PySem PySem.W PyProof.Rows
namespace Mine
open Sem (wp)
open PySem.NumText
open PySem.Builtin PySem.Builtin.Int
theorem wpC_ite_false {α : Type} {M : Model} {A : Around} {E : Value → Shared → Prop} {s : Shared} {Q : α → Shared → Prop} {c : Prop} [Decidable c] {a b : Sem α} (hc : decide c = false) (h : wpC M A b Q E s) : wpC M A (if c then a else b) Q E s := by
  rw [if_neg (of_decide_eq_false hc)]; exact h
theorem wpC_ite_true {α : Type} {M : Model} {A : Around} {E : Value → Shared → Prop} {s : Shared} {Q : α → Shared → Prop} {c : Prop} [Decidable c] {a b : Sem α} (hc : decide c = true) (h : wpC M A a Q E s) : wpC M A (if c then a else b) Q E s := by
  rw [if_pos (of_decide_eq_true hc)]; exact h

local macro_rules | `(tactic| walk_at "cc") => `(tactic| first
  | (with_reducible refine wpC_bind (wpC_holding (wpC_call ?_)))
  | (with_reducible first | refine wpC_pure ?_ | refine wpC_bindL ?_ | refine wpC_holding ?_ | refine wpC_standAt ?_ | refine wpC_point ?_ | refine wpC_rule ?_)
  | (with_reducible first | (refine wpC_ite_false (by first | rfl | decide | (simp [*]; done)) ?_) | (refine wpC_ite_true (by first | rfl | decide | (simp [*]; done)) ?_))
  | wp_step
  | (with_reducible_and_instances first | refine wpC_pure ?_ | refine wpC_bindL ?_))

set_option maxHeartbeats 4000000 in
theorem int_new_raises {prog : Program} {w : World} {A : Around} {E : Value → Shared → Prop} {s : Shared} {Q : Fin → Shared → Prop} {x : PySem.Str} {u : Tok}
    (hl : x.length ≤ 640) (hn : PySem.intText? x = none) (ha : ((numSeenOf x).length == (numTextOf x).length) = true)
    (hq : (reprText x).length ≤ sizeLine) (hq' : (noNumber x).length ≤ sizeLine) (hA : HandledOk A s.heap)
    (h : ∀ h' e tk tm, MadeX s.heap h' e "ValueError" (ctxOf A) [.str (noNumber x) tm] → E (.ref e) { s with heap := h', toks := tk }) :
    wpC (model prog w) A (Builtin.«int.__new__» ⟨[.type "int", .str x u], []⟩) Q E s := by
  obtain ⟨hp, g, d, tk, os⟩ := s
  have f1 := F.conv_sub_int
  have f2 := F.madeHere_int
  have f3 := KIN.str_int
  have f4 := KIN.str_idx
  have f5 := KIN.str_trunc
  have f6 : typeOf (.str x u) = pure (.type "str") := rfl
  unfold Builtin.«int.__new__»
  repeat walk_at "cc"
  refine wpC_bind (m := (int_private% "intFromObject") (.str x u)) ?_
  refine wpC_bindL (f := fun r => _) ?_
  repeat walk_at "cc"
  show wpC _ _ ((int_private% "intFromText") (.str x u) (numTextOf x) 10) _ _ _
  have hs : (numSeenOf x).length ≤ 640 := Nat.le_trans (seen_length x) hl
  have hr : (int_private% "readNumeral") 0 10 (numSeenOf x) = int_private% "Numeral.invalid" := by
    rcases read0 x hs with ⟨m, h1, _⟩ | ⟨_, h2 | ⟨i, _, h3⟩⟩
    · rw [hn] at h1; cases h1
    · exact h2
    · exact absurd ha h3
  refine limit_step (c := (numSeenOf x).length ≤ 640) hs ?_
  dsimp only
  rw [hr]
  dsimp only
  refine wpC_bindL (wpAny_of_eq (a := none) rfl ?_)
  refine wpC_ite_false rfl ?_
  refine wpC_bind (wpC_rule ?_)
  refine wpC_bindL (wpAny_of_eq (a := none) rfl ?_)
  dsimp only
  refine wpC_bindL (wpAny_pyRepr_str ?_ hq)
  refine wpC_bindL (wpAny_mkStr ?_ hq')
  refine wpC_bindL (wpAny_newExc_plain plainExc_ValueError fun h' e hm => ?_)
  refine wpC_bind (wpC_mark ?_)
  refine wpC_of_any (raiseNew_made (h₀ := hp) hm hA fun h'' hx => ?_)
  exact h _ _ _ _ hx

theorem call_int_raises {prog : Program} {w : World} {A : Around} {E : Value → Shared → Prop} {s : Shared} {Q : Value → Shared → Prop} {x : PySem.Str} {u : Tok}
    (hl : x.length ≤ 640) (hn : PySem.intText? x = none) (ha : ((numSeenOf x).length == (numTextOf x).length) = true)
    (hq : (reprText x).length ≤ sizeLine) (hq' : (noNumber x).length ≤ sizeLine) (hA : HandledOk A s.heap)
    (h : ∀ h' e tk tm, MadeX s.heap h' e "ValueError" (ctxOf A) [.str (noNumber x) tm] → E (.ref e) { s with heap := h', toks := tk }) :
    wpC (model prog w) A (call (.type "int") [.str x u]) Q E s := by
  obtain ⟨c, tl, hmro⟩ := F.called_int.mro
  have hmade := F.called_int.made
  have hsub := F.called_int.sub
  have hct := F.typeCall_int_1 (.str x u)
  refine wpC_call (codeC_of_tree ?_)
  show wpC _ _ (callAny (.type "int") _) _ _ _
  refine wpC_pure ⟨Code.quiet_builtin _ (by decide +kernel), codeC_builtin F.entry_type_call ?_⟩
  rw [Around.under_plain (weight_type_call_type "int" _ []) (units_type_call_type "int" _ [])]
  have h1 := F.called_int.notType
  have h2 := F.called_int.canCreate
  unfold Builtin.«type.__call__»
  dsimp only
  repeat walk_at "cc"
  refine codeC_call_builtin F.called_int.plain F.entry_int_new (wpAny_of_eq (F.newCall_int_1 _) ?_)
  exact int_new_raises hl hn ha hq hq' hA h
end Mine
end

section
open PySem PySem.W PyProof.Rows
namespace Mine
open Sem (wp)
open PySem.Calls

theorem caller_cal : Cal (⟨.builtin "claim.caller" {}, none, none, [], none⟩ : Ctx) := by
  unfold Cal HasC
  rfl

theorem wp_of_wpC_done {M : Model} {A : Around} {Γ : Ctx} {t : Sem PySem.Fin} {R : Result → Shared → Prop} {s : Shared} (hin : Γ.In A) (hc : Cal Γ)
    (h : wpC M A t (fun fin s' => ∃ f, fin = .done f ∧ R (.ok f) s') (fun e s' => R (.error e) s') s) (p : Pos) :
    wp M Γ t (Sem.finPost M Γ R) (fun e _ s' => R (.error e) s') p s := by
  refine Sem.wp_mono M Γ t (fun fin p' s' h' => ?_) (fun _ _ _ h' => h') p s (h Γ p hin hc)
  obtain ⟨f, rfl, hf⟩ := h'
  exact hf

theorem callFromC {c : ClaimW} {tree : List Value → Sem PySem.Fin} {w : World} {s : Shared} {free : Addr → Prop} {gens : Prop} {kept : Heap → Prop} (hz : s.asleep) (hgens : s.gens = #[])
    (hspec : ∀ args, c.pre args = true → WData.layableAll args = true →
      ∀ ord : List DictEntry → List DictEntry, (∀ l, (ord l).Perm l) →
      ∃ vs s₁, layAllW c.records (classAt s.heap) w.params ord args s = some (vs, s₁) ∧
        wpC (model c.prog w) callerA (tree vs) (fun fin s' => ∃ f, fin = .done f ∧ (c.Ends s args vs s₁ (.ok f) s' ∧ s'.os = s.os ∧ AllBare s'.gens ∧ kept s'.heap))
          (fun e s' => c.Ends s args vs s₁ (.error e) s' ∧ s'.os = s.os ∧ AllBare s'.gens ∧ kept s'.heap) s₁) :
    c.CallFrom (fun vs => ⟨tree vs, .builtin "claim.caller" {}, default, []⟩) w free gens kept s := by
  intro args hpre hlay ord hord
  obtain ⟨vs, s₁, hlaid, hcode⟩ := hspec args hpre hlay ord hord
  have hal := layAllW_rest _ _ _ hlaid
  obtain ⟨n, r, s', s'', hs, hn, hfo, hR⟩ := wp_halts_full (M := model c.prog w) (R := fun r s' => c.Ends s args vs s₁ r s' ∧ s'.os = s.os ∧ kept s'.heap) (Shared.asleep_of_life hal.2.2.2 hz)
    (wp_of_wpC_done (R := fun r s' => (c.Ends s args vs s₁ r s' ∧ s'.os = s.os ∧ kept s'.heap) ∧ leftWithCleanup s'.gens = false) caller_in caller_cal
      (wpC_mono hcode (by
        rintro fin s' ⟨f, e, h1, h2, h3, h4⟩
        exact ⟨f, e, ⟨h1, h2, h4⟩, leftWithCleanup_false_of_bare h3⟩) (by
        rintro e s' ⟨h1, h2, h3, h4⟩
        exact ⟨⟨h1, h2, h4⟩, leftWithCleanup_false_of_bare h3⟩)) default)
  obtain ⟨hcase, hos, hkp⟩ := hR
  obtain ⟨eh, _, _, eo, _⟩ := Shared.forget_eq hfo
  have hcase := hcase.congr eh
  have hkp : kept s''.heap := by first | exact eh ▸ hkp | (rw [eh] at hkp; exact hkp) | (rw [← eh] at hkp; exact hkp)
  rw [← eo] at hos
  have hlife : s''.heap.life = s.heap.life := (runN_life _ _ _ hn).trans hal.2.2.2
  refine ⟨vs, s₁, hlaid, n, _, s'', hs, ?_, (fun _ i x hx => by rw [hgens] at hx; simp at hx), hkp, by rw [hlife], Shared.rest_eq hos⟩
  rcases hcase with ⟨v, rfl, d1, d2, d3, d4, d5⟩ | ⟨e, ob, cls, rfl, d1, d2, d3, d4, d5⟩
  · exact .inl ⟨v, rfl, d1, d2, d3, fun b o y _ => d4 b o y, d5⟩
  · exact .inr ⟨e, ob, cls, rfl, d1, d2, d3, d4, fun b o y _ => d5 b o y⟩

theorem open_anyC {r : RowW} {run : Value → List Value → Sem Value} {tree : List Value → Sem PySem.Fin} {q : Program} {loose defs kps : List PySem.Str} {writes : Bool} {Xt : Shared → Bool} {XP : (PySem.Str → Option Value) → Heap → Prop} {α : Type} {Yf : Shared → α} {Ya : World → α} {YP : World → Heap → Prop} {N : Nat}
    (left : LeftO r.prog q loose Xt Yf Ya N) (hY : ∀ w s, Yf s = Ya w → YP w s.heap) (hYk : ∀ w h h', YP w h → (∀ b o, h.get? b = some o → h'.get? b = some o) → YP w h') (hX : ∀ s, Xt s = true → XP (s.heap.nsMap mainGlobals) s.heap) (hXk : ∀ mg h h', XP mg h → (∀ b o, h.get? b = some o → h'.get? b = some o) → XP mg h')
    (hRf : ∀ s, Xt s = true → RecFacts r.records s.heap) (hwr : (!writes || r.records.isEmpty) = true) (ok : (chainsOk q && opensWell r.prog && (frees r && r.within.isEmpty)) = true) (hb : r.prog.bare) (hw : r.promised)
    (ht : ∀ vs (w : World) (s : Shared) mg f (Q : PySem.Fin → Shared → Prop) (E : Value → Shared → Prop), s.heap.Ns mainGlobals mg → mg r.name = some f → wpC (model r.prog w) callerA (run f vs) (fun v s' => Q (.done (.ret v)) s') E s → wpC (model r.prog w) callerA (tree vs) Q E s)
    (pin : ∀ w s, s.heap.isNs mainGlobals = true → Ground q loose [] XP w s (s.heap.nsMap mainGlobals) (s.heap.nsMap builtinsNs) s.heap → ∀ n ∈ defs, isTheDefsW r.prog s.heap n)
    (call : ∀ (w : World) (s₀ s₁ : Shared) (mg mb : PySem.Str → Option Value), Ground q loose r.records XP w s₀ mg mb s₁.heap → YP w s₁.heap → ∀ (args : List WData) (vs : List Value) (as : List Addr),
      r.claim.pre args = true → WData.layableAll args = true → Laid r.records w s₀ s₁ args vs as → sysModules < s₀.heap.objs.size → ∃ f, mg r.name = some f ∧
        wpC (model r.prog w) callerA (run f vs) (fun v s' => GoodWG r.claim (classAt s₀.heap) (ExcName.means s₀.heap) args s₁ (.ok (.ret v)) s')
          (fun e s' => GoodWG r.claim (classAt s₀.heap) (ExcName.means s₀.heap) args s₁ (.error e) s') s₁) : r.claim.HoldsOpenBy (fun vs => ⟨tree vs, .builtin "claim.caller" {}, default, []⟩) defs kps writes := by
  obtain ⟨ok, k5⟩ := Bool.and_eq_true_iff.mp ok
  obtain ⟨hch, o1⟩ := Bool.and_eq_true_iff.mp ok
  obtain ⟨k5, k6⟩ := Bool.and_eq_true_iff.mp k5
  obtain ⟨hsame, hu, ha, hap, hm⟩ := frees_parts k5
  refine ⟨⟨hb, o1, by show r.makers.map _ = []; rw [hm]; rfl⟩, hw.witness, fun w => ⟨(left.behind hX hch w).1, fun s' hs' => ?_⟩⟩
  obtain ⟨s₀, hf, hg0, s, hT, hz, hgens, hg, G00, y⟩ := (left.behind (XP := fun mg h => XP mg h ∧ RecFacts r.records h) (fun s hs => ⟨hX s hs, hRf s hs⟩) hch w).2 s' hs'
  have G0 : Ground q loose [] XP w s (s.heap.nsMap mainGlobals) (s.heap.nsMap builtinsNs) s.heap := ⟨G00.T, G00.B, G00.D, G00.TE, G00.TD, G00.W, G00.X.1, G00.cls, G00.has, G00.apart, G00.once, G00.K⟩
  have RF := G00.X.2
  have hT' := hT
  refine ⟨s₀, hf, hg0, s, hT, pin w s hg G0, RF.1, RF.2.1, ?_⟩
  have hgens : s.gens = #[] := Array.eq_empty_of_size_eq_zero (beq_iff_eq.mp hgens)
  have G : Ground q loose r.records XP w s _ _ s.heap := RF.ground G0
  refine callFromC (c := r.claim) hz hgens fun args hpre hlay ord hord => ?_
  obtain ⟨⟨vs, s₁⟩, hlaid⟩ := Option.isSome_iff_exists.mp (layAllW_isSome (P := w.params) (ord := ord) G.has args r.args s (pre_splitW hpre).1)
  have keeps := layAllW_keeps _ _ _ hlaid
  have hal := layAllW_rest _ _ _ hlaid
  obtain ⟨as, hrd, hin, hold⟩ := reads_layAllW hord _ _ _ hlaid hlay s₁.heap (fun _ _ e => e)
  have L : Laid r.records w s s₁ args vs as := ⟨⟨ord, hord, hlaid⟩, hrd, hin, hold, keeps, hal.1.trans hgens, hal.2.2.1⟩
  have G₁ := G.keeps hXk keeps
  obtain ⟨f, hf, h⟩ := call w s s₁ _ _ G₁ (hYk _ _ _ (hY w s y) keeps) args vs as hpre hlay L G.low
  have hi := ident_freeW hu ha hap
  have hwi : r.claim.within = [] := List.isEmpty_iff.mp k6
  exact ⟨vs, s₁, hlaid, ht vs w s₁ _ f _ _ G₁.T.g hf (wpC_mono h (fun v s' g => ⟨_, rfl, have z := g.laid (c := r.claim) hsame hwi hi L; ⟨z.1, z.2.1, z.2.2, fun q => ⟨namesKept_of hT' hg kps keeps g.2.1.old, noTable hwr q⟩⟩⟩) fun e s' g => have z := g.laid (c := r.claim) hsame hwi hi L; ⟨z.1, z.2.1, z.2.2, fun q => ⟨namesKept_of hT' hg kps keeps g.2.1.old, noTable hwr q⟩⟩)⟩

/-- what is asked of the walk: in the C-logic -/
abbrev WalkQ (q : Program) (loose : List PySem.Str) (XP : (PySem.Str → Option Value) → Heap → Prop) (YP : World → Heap → Prop) (r : RowW) (d : DefRec) (kwd : List (PySem.Str × Expr)) : Prop :=
  ∀ (w : World) (s₀ s₁ : Shared) (mg mb : PySem.Str → Option Value), Ground q loose r.records XP w s₀ mg mb s₁.heap → YP w s₁.heap → ∀ (a : Addr) (o : Obj) (pm cd doc dV kV : Value), s₁.heap.get? a = some o →
    o.data = .func { docDef d.name d.params d.body d.scope pm cd doc with defaults := dV, kwdefaults := kV } → s₁.heap.CodeRec cd d.name → Dflts mg s₁.heap d.params kwd dV kV → mg d.name = some (.ref a) → s₁.gens = #[] →
    ∀ (args : List WData) (vals : List Value) (as : List Addr), r.claim.pre args = true → WData.layableAll args = true → ReadsAllW r.records (classAt s₀.heap) s₁.heap vals args as → WellAll w.params s₁.heap vals args → (∀ a ∈ as, (a == sysModules) = false) →
      wpC (model r.prog w) callerA (PySem.call (.ref a) vals) (fun v s' => GoodWG r.claim (classAt s₀.heap) (ExcName.means s₀.heap) args s₁ (.ok (.ret v)) s')
        (fun e s' => GoodWG r.claim (classAt s₀.heap) (ExcName.means s₀.heap) args s₁ (.error e) s') s₁
end Mine

namespace MineTop
open Mine
open PySem.Calls
/-- the head's join, for a walk in the C-logic; the head's tactic takes it for the library's own of that name -/
theorem PySem.W.holds_open {r : OpenRow} {q : Program} {loose : List PySem.Str} {Xt : Shared → Bool} {XP : (PySem.Str → Option Value) → Heap → Prop} {α : Type} {Yf : Shared → α} {Ya : World → α} {YP : World → Heap → Prop} {d : DefRec} {kwd : List (PySem.Str × Expr)} {N : Nat}
    (left : LeftO r.prog q loose Xt Yf Ya N) (hY : ∀ w s, Yf s = Ya w → YP w s.heap) (hYk : ∀ w h h', YP w h → (∀ b o, h.get? b = some o → h'.get? b = some o) → YP w h')
    (hX : ∀ s, Xt s = true → XP (s.heap.nsMap mainGlobals) s.heap) (hXk : ∀ mg h h', XP mg h → (∀ b o, h.get? b = some o → h'.get? b = some o) → XP mg h')
    (hdef : defOf q r.name = some (d, kwd)) (hp : r.prog.theDef r.name = some (d.params, d.body, d.scope)) (hk : kwWritten? d.params.kwonlyargs d.params.kw_defaults = some kwd) (hRf : ∀ s, Xt s = true → RecFacts r.records s.heap) (hwr : (!r.writes || r.records.isEmpty) = true)
    (k1 : r.wellSaid = true) (ok : (chainsOk q && opensWell r.prog && (frees r.toRowW && r.within.isEmpty)) = true) (hb : r.prog.bare) (hw : r.toRowW.promised)
    (call : WalkQ q loose XP YP r.toRowW d kwd) : r.Holds := by
  refine ⟨k1, hw, open_anyC (r := r.toRowW) (run := fun f vs => PySem.call f vs) (tree := fun vs => do match ← nsGet mainNs r.name with
      | some f => do ret (← PySem.call f vs)
      | none => unsupported "claim.caller:no-such-global") left hY hYk hX hXk hRf hwr ok hb hw
    (fun vs w s mg f Q E hg hf h => wpC_bindL (wpAny_nsGet hg (by rw [hf]; exact wpC_bind (wpC_mono h (fun _ _ x => wpC_pure x) fun _ _ x => x))))
    (fun w s hg G n hn => ?_) fun w s₀ s₁ mg mb G Y args vs as hpre hlay L low => ?_⟩
  · obtain rfl : n = r.name := by split at hn <;> simp_all
    exact pinned_of_view hg G hdef hp hk
  · obtain ⟨a, o, pm, cd, doc, dV, kV, h1, h2, h3, h4, h5⟩ := G.fn hdef
    exact ⟨.ref a, h1, call w s₀ s₁ mg mb G Y a o pm cd doc dV kV h2 h3 h4 h5 (defOf_name hdef ▸ h1) L.gens args vs as hpre hlay L.reads L.well (L.low low)⟩
end MineTop
end

section
open PySem PySem.W PyProof.Rows
namespace MineTop
set_option maxHeartbeats 8000000 in
open_top hd for PySem.Challenge.rw_in0098_01
end MineTop
end

section
open PySem PySem.W PyProof.Rows
namespace Mine
open Sem (wp)
open PySem.Calls

section
variable {M : Model} {A : Around} {E : Value → Shared → Prop} {s : Shared} {env : Env}

theorem wpC_execs_nil {Q : Flow → Shared → Prop} (h : Q .next s) : wpC M A (execs [] env) Q E s := by rw [execs]; exact wpC_pure h
theorem wpC_execs_cons {st : Stmt} {rest : List Stmt} {Q : Flow → Shared → Prop}
    (h : wpC M A (exec st env) (fun f s₁ => match f with | .next => wpC M A (execs rest env) Q E s₁ | f => Q f s₁) E s) : wpC M A (execs (st :: rest) env) Q E s := by
  rw [execs]
  refine wpC_bind (wpC_mono h (fun f s₁ h₁ => ?_) fun _ _ x => x)
  cases f <;> first | exact h₁ | exact wpC_pure h₁
theorem wpC_execs_consL {st : Stmt} {rest : List Stmt} {Q : Flow → Shared → Prop}
    (h : wpAny M A (exec st env) (fun f s₁ => match f with | .next => wpC M A (execs rest env) Q E s₁ | f => Q f s₁) E s) : wpC M A (execs (st :: rest) env) Q E s :=
  wpC_execs_cons (wpC_of_any h)

theorem wpC_Assign_Name {x pos' value pos} {Q : Flow → Shared → Prop}
    (h : wpC M A (eval value env) (fun v s₁ => wpAny M A (storeName env x v) (fun _ => Q .next) E s₁) E s)
    (hs : swapsWith value (some (.Name x pos')) pos.line env = pure false := by rfl) :
    wpC M A (exec (.Assign [.Name x pos'] value pos) env) Q E s := fun Γ p hΓ hc => by
  simp only [exec_Assign_Name env x pos' value pos hs, Sem.wp_bind', Sem.wp_cmd_standAt, Sem.wp_bindName, Sem.wp_pure']
  exact Sem.wp_mono M Γ _ (fun v _ s₁ h₁ => h₁ Γ _ hΓ) (fun _ _ _ h' => h') _ _ (h Γ _ hΓ hc)

theorem wpC_If {test body orelse pos} {Q : Flow → Shared → Prop}
    (h : wpC M A (isTrue test env (eval test env))
      (fun b s₂ => if b then wpC M A (execs body env) Q E s₂ else wpC M A (execs orelse env) Q E s₂) E s) :
    wpC M A (exec (.If test body orelse pos) env) Q E s := by
  rw [exec_If]
  refine wpC_bind (wpC_standAt (wpC_bind (wpC_mono h (fun b s₂ h₂ => ?_) fun _ _ x => x)))
  cases b <;> exact h₂
theorem wpC_isTrue_Compare1 {l op r pos whole} {Q : Bool → Shared → Prop}
    (h : wpC M A (eval l env) (fun a s₁ => wpAny M A (eval r env) (fun b s₂ => wpAny M A (compareOp op a b)
      (fun c s₃ => wpAny M A (truthy c) Q E s₃) E s₂) E s₁) E s)
    (hm : behindInMarks op r = false := by with_unfolding_all rfl) : wpC M A (isTrue (.Compare l [op] [r] pos) env whole) Q E s := fun Γ p hΓ hc => by
  simp only [isTrue_Compare1, markedBehindIn_of_false hm, Sem.wp_bind', Sem.wp_holding, Sem.wp_cmd_standAt, Sem.wp_operate]
  exact Sem.wp_mono M Γ _ (fun a p₁ s₁ h₁ => Sem.wp_mono M Γ _ (fun b _ s₂ h₂ => Sem.wp_mono M Γ _ (fun c p₃ s₃ h₃ => h₃ Γ p₃ hΓ)
    (fun _ _ _ h' => h') _ _ (h₂ Γ _ hΓ)) (fun _ _ _ h' => h') _ _ (h₁ Γ p₁ hΓ)) (fun _ _ _ h' => h') _ _ (h Γ p hΓ hc)
theorem wpC_Return_some {e pos} {Q : Flow → Shared → Prop} (h : wpC M A (eval e env) (fun v => Q (.ret v)) E s) : wpC M A (exec (.Return (some e) pos) env) Q E s := by
  rw [exec_Return_some]
  exact wpC_bind (wpC_standAt (wpC_bind (wpC_mono h (fun v s₁ h₁ => wpC_pure h₁) fun _ _ x => x)))

theorem wpC_Call_Name {x : PySem.Str} {p pos : Pos} {args : List Expr} {trees : List (Bool × Sem Value)} {Q : Value → Shared → Prop} (ht : backTo pos (starEach args env) = trees)
    (h : wpAny M A (eval (.Name x p) env) (fun f s₁ => wpC M A (callWith pos f [] trees []) Q E s₁) E s) :
    wpC M A (eval (.Call (.Name x p) args [] pos) env) Q E s := by
  subst ht
  exact wpC_bindL h
theorem wpC_callWith_type {pos : Pos} {T : String} {args : List (Bool × Sem Value)} {Q : Value → Shared → Prop} (hplain : args.any (·.1) = false)
    (h : wpAny M A (evalArgs (.type T) true args []) (fun a s₁ => wpC M A (call (.type T) ([] ++ a.pos) a.kw) Q E s₁) E s) :
    wpC M A (callWith pos (.type T) [] args []) Q E s := by
  unfold callWith
  refine wpC_bind (wpC_holding (wpC_of_any (wpAny_mono h (fun a s₁ h₁ => wpC_bind (wpC_standAt ?_)) fun _ _ x => x)))
  simp only [hplain, List.any_nil, Bool.or_false]
  refine wpC_bind (wpC_pure ?_)
  exact wpC_bind (wpC_mono h₁ (fun r s₂ hr => wpC_bind (wpC_holding (wpC_point (wpC_pure hr)))) fun _ _ x => x)
theorem wpC_callWith_function {pos : Pos} {a : Addr} {o : Obj} {fd : FuncData} {args : List (Bool × Sem Value)} {Q : Value → Shared → Prop}
    (h : wpAny M A (evalArgs (.ref a) true args []) (fun x s₁ => (s₁.heap.get? a = some o ∧ o.data = .func fd) ∧ wpC M A (call (.ref a) ([] ++ x.pos) x.kw) Q E s₁) E s) :
    wpC M A (callWith pos (.ref a) [] args []) Q E s := by
  unfold callWith
  refine wpC_bind (wpC_holding (wpC_of_any (wpAny_mono h (fun x s₁ h₁ => wpC_bind (wpC_standAt ?_)) fun _ _ x => x)))
  have tail : ∀ {t : Sem Value}, wpC M A t Q E s₁ → wpC M A (t >>= fun r => holding [r] point >>= fun _ => pure r) Q E s₁ :=
    fun ht => wpC_bind (wpC_mono ht (fun r s₂ hr => wpC_bind (wpC_holding (wpC_point (wpC_pure hr)))) fun _ _ x => x)
  cases hs : args.any (·.1) <;> simp only [List.any_nil, Bool.or_false] <;>
    refine wpC_bindL (m := keeperOf (.ref a)) ?_ <;> unfold keeperOf <;>
    refine wpAny_bind (wpAny_load h₁.1.1 ?_) <;> rw [h₁.1.2] <;> refine wpAny_pure ?_
  all_goals (repeat' split)
  all_goals (refine tail ?_; first | exact h₁.2 | (unfold callMarked; exact wpC_keep h₁.2))

theorem wpC_runOwn {c : Code} {h : Option Value} {Q : Flow → Shared → Prop}
    (hc : codeC M (A.mark h) c (fun r s' => match r with | .ok f => Q f s' | .error e => cameBackBy M A env E e s') s) (hnb : h ≠ some byPass := by intro x; cases x) :
    wpC M A (runOwn c env h) Q E s := by
  unfold runOwn
  exact wpC_onRaise (wpC_run (codeC_mono hc fun r s' hr => by cases r <;> first | exact hr | exact wpC_of_any hr) hnb)

theorem wpC_For {target iter body orelse pos} {Q : Flow → Shared → Prop}
    (h : wpAny M A (eval iter env) (fun x s₁ => wpAny M A (pyIter x) (fun it s₂ =>
      codeC M A (.forLoop target it body orelse env) (fun r s' => match r with | .ok f => Q f s' | .error e => cameBackBy M A env E e s') s₂) E s₁) E s)
    (hs : ∀ x, foldedSetIterable iter env x = pure x := by intro _; rfl) :
    wpC M A (exec (.For target iter body orelse pos) env) Q E s := by
  rw [exec_For]
  exact wpC_bind (wpC_standAt (wpC_bindL (wpAny_mono h (fun x s₁ h₁ => wpC_bindL (wpAny_of_eq (hs x) (wpC_bind (wpC_standAt (wpC_bindL (wpAny_holding
    (wpAny_mono h₁ (fun it s₂ h₂ => wpC_runOwn h₂) fun _ _ h' => h'))))))) fun _ _ h' => h')))

theorem wpC_noted {α : Type} {m : Sem α} {Q : α → Shared → Prop} (h : wpC M A m Q (notedBy M A env E) s) : wpC M A (m.onRaise fun x => do noteFrame x env; theTreesLotGoes x) Q E s :=
  wpC_onRaise (wpC_mono h (fun _ _ q => q) fun _ _ hx => wpC_of_any (wpAny_bind (wpAny_mono hx (fun _ _ e => wpAny_theTreesLotGoes e) fun _ _ e => e)))

theorem wpC_tryStmt_except {body orelse : Sem Flow} {h₀ : ExceptHandler} {hs : List ExceptHandler} {Q : Flow → Shared → Prop}
    (h : wpC M A body (fun f s₁ => match f with | .next => wpC M A orelse Q E s₁ | f => Q f s₁)
      (fun e s₁ => wpAny M A (noteFrame e env) (fun _ s₂ => wpAny M A (setFlight e none) (fun _ s₃ => wpC M A (handleBy e env (h₀ :: hs)) Q E s₃) E s₂) E s₁) s) :
    wpC M A (tryStmt false body (h₀ :: hs) orelse [] env) Q E s := by
  unfold tryStmt
  simp only [List.isEmpty_nil, if_true, List.isEmpty_cons, Bool.false_and, Bool.false_eq_true, if_false]
  refine wpC_bind (wpC_attempt (wpC_mono h (fun f s₁ h₁ => ?_) fun e s₁ h₁ => ?_))
  · cases f <;> first | exact h₁ | exact wpC_pure h₁
  · exact wpC_bindL (wpAny_mono h₁ (fun _ _ h₂ => wpC_bindL h₂) fun _ _ x => x)
end

section
variable {prog : Program} {w : World} {A : Around} {E : Value → Shared → Prop} {R : Result → Shared → Prop} {s : Shared} {env : Env}
theorem codeC_block {stmts : List Stmt} {env : Env}
    (h : wpC (model prog w) A (execs stmts env) (fun f s' => R (.ok f) s') (notedBy (model prog w) A env fun e s' => R (.error e) s') s) : codeC (model prog w) A (.block stmts env) R s := by
  refine codeC_of_tree ?_
  show wpC _ _ (do return Fin.done (← (execs stmts env).onRaise (fun x => do noteFrame x env; theTreesLotGoes x))) _ _ s
  exact wpC_bind (wpC_noted (wpC_mono h (fun f s' h' => wpC_pure h') fun _ _ h' => h'))

theorem codeC_forLoop {target it body orelse env} (I : Nat → Shared → Prop)
    (turn : ∀ n s, I n s → wpAny (model prog w) A (pyNext it) (fun r s₁ => match r with
      | none => wpC (model prog w) A (execs orelse env) (fun f s₃ => R (.ok f) s₃) (notedBy (model prog w) A env fun e s' => R (.error e) s') s₁
      | some v => wpAny (model prog w) A (assign target env v) (fun _ s₂ => wpC (model prog w) A (execs body env) (fun f s₃ => match f with
          | .next | .cont => ∃ m, m < n ∧ I m s₃
          | .brk => R (.ok .next) s₃
          | .ret v => R (.ok (.ret v)) s₃) (notedBy (model prog w) A env fun e s' => R (.error e) s') s₂) (notedBy (model prog w) A env fun e s' => R (.error e) s') s₁) (notedBy (model prog w) A env fun e s' => R (.error e) s') s)
    (n : Nat) (h : I n s) (ht : ∀ v, letOwnedTupleGo target it v = pure () := by intro _; rfl) : codeC (model prog w) A (.forLoop target it body orelse env) R s := by
  refine codeC_loop' rfl I (fun n s hI => ?_) n h
  show wpC _ _ ((forTurn target it body orelse env).onRaise (fun x => do noteFrame x env; theTreesLotGoes x)) _ _ s
  refine wpC_noted ?_
  simp only [forTurn]
  refine wpC_bind (wpC_standAt (wpC_bindL (wpAny_onRaise (wpAny_mono (turn n s hI) (fun r s₁ h₁ => ?_) fun _ _ h' => wpAny_standAt h'))))
  cases r with
  | none => exact wpC_pure (.inr ⟨rfl, codeC_block h₁⟩)
  | some v =>
    refine wpC_bindL (wpAny_of_eq (ht v) ?_)
    refine wpC_bindL (wpAny_mono h₁ (fun _ s₂ h₂ => wpC_bind (wpC_mono h₂ (fun f s₃ h₃ => ?_) fun _ _ h' => h')) fun _ _ h' => h')
    cases f with
    | next => exact wpC_pure (.inl ⟨rfl, h₃⟩)
    | cont => exact wpC_pure (.inl ⟨rfl, h₃⟩)
    | brk => exact wpC_pure h₃
    | ret v => exact wpC_pure h₃

theorem codeC_call_def {a : Addr} {o : Obj} {fd : FuncData} {body : List Stmt} {args : Args} {binds : List (PySem.Str × Value)}
    (hroom : A.depth < recursionLimit) (ho : s.heap.get? a = some o) (hdata : o.data = .func fd) (hlim : s.heap.NoLimit) (hcd : s.heap.CodeRec fd.code fd.qualname)
    (hbody : fd.body = .stmts body) (hbind : BindsTo s fd args binds)
    (hcell : ∀ x ∈ fd.scope.names, x.2 ≠ .cell) (hloc : ∀ x ∈ binds, fd.scope.names.lookup x.1 = some .local)
    (h : ∀ h₀, h₀.Ns s.heap.objs.size (fun x => binds.reverse.lookup x) → (∀ b o, s.heap.get? b = some o → h₀.get? b = some o) →
      wpC (model prog w) (A.deeper (callEnv fd s.heap.objs.size a)) (execs body (callEnv fd s.heap.objs.size a)) (fun f s' => R (.ok (.ret (match f with | .ret v => v | _ => .none))) s')
        (fun e s' => wpAny (model prog w) (A.deeper (callEnv fd s.heap.objs.size a)) (leaving (callEnv fd s.heap.objs.size a) e) (fun _ s'' => R (.error e) s'') (fun e' s'' => R (.error e') s'') s')
        { s with heap := h₀, toks := s.toks + binds.length })
    (hco : fd.scope.isCoroutine = false := by rfl) (hgen : fd.scope.isGenerator = false := by rfl) (hk : fd.scope.kind = .function := by rfl) :
    codeC (model prog w) A (.call (.ref a) args) R s := by
  refine codeC_call_function hroom ho hdata hco hgen hbody hcd (hbind _ _ _ _ ?_)
  refine wpAny_newFunctionEnv hcell hloc (fun h₀ hns₀ hsb₀ => ⟨hlim.fresh _ hsb₀, codeC_func (h h₀ hns₀ fun b o e => ?_)⟩) hk
  exact hsb₀.extBut b o (Nat.ne_of_lt (Heap.lt_size e)) (Heap.get?_push_of_some _ e)
end
end Mine
end

section
open PySem PySem.W PyProof.Rows
namespace Mine
/-- so that the walk's lines know the written part -/
theorem fill_K : PySem.Challenge.rw_in0098_01 = PySem.Challenge.rw_in0098_01 ∧ MineTop.hd.heap_39 = MineTop.hd.heap_39 := by
  w_top off
  k_fill
  exact ⟨rfl, rfl⟩

theorem gen_toks {α : Type} {M : Model} {A : Around} {Q : α → Shared → Prop} {E : Value → Shared → Prop} {t : Sem α} {h : Heap} {g : Array GenState} {d : Drawn} {a b : Nat} {os : OsState}
    (k : ∀ tk, wpAny M A t Q E ⟨h, g, d, tk, os⟩) : wpAny M A t Q E ⟨h, g, d, a + b, os⟩ := k _

/-- what a call of one of the text's defs comes to, wherever a def of the text calls it: no raise, nothing that stood is turned -/
abbrev LeafCt (w : World) (loose : List PySem.Str) (mean : ExcName → Option Value) (mg mb : PySem.Str → Option Value) (f : Addr) (news : List (Addr × Obj)) (vs : List Value) (R : Value → List (Addr × Obj) → Prop) : Prop :=
  ∀ (dp un : Nat) (gd : Option (List Code)) (cn : PySem.Str) (cs : Scope) (a : Addr) (ccd : Value) (cl : List (PySem.Str × Addr)) (outer : List Env) (A₀ : Around) (base h₀ : Heap) (L : Addr) (m : PySem.Str → Option Value) (s : Shared) (Q E : Value → Shared → Prop),
    Below A₀ base outer h₀ → Fr h₀ L s.heap m → (MineTop.hd.heap_39 w.params).In h₀ → News h₀ L s.heap news → Top MineTop.hd.view_39 loose mean mg mb h₀ → cs.kind = .function →
      dp + 4 < recursionLimit → un + 20 < cLine →
      (∀ v news' h' tk', Fr h₀ L h' m → News h₀ L h' news' → R v news' → Q v { s with heap := h', toks := tk' }) →
      wpAny (model PySem.Challenge.pw_in0098_01 w) (ktrTop dp un gd cn cs L a ccd cl outer) (call (.ref f) vs) Q E s
end Mine
end

section
local macro_rules | `(tactic| walk_at "PAD") => `(tactic| fail)
open PySem PySem.W PyProof.Rows
namespace Mine

theorem execs_append_eq (env : Env) (l₂ : List Stmt) : ∀ l₁ : List Stmt, execs (l₁ ++ l₂) env = (execs l₁ env >>= fun f => match f with | .next => execs l₂ env | f => pure f)
  | [] => by
    show execs l₂ env = (execs [] env >>= _)
    rw [show execs [] env = pure .next from by rw [execs], pure_bind]
  | st :: l₁ => by
    have ih := execs_append_eq env l₂ l₁
    rw [List.cons_append, execs_cons, execs_cons, bind_assoc]
    refine congrArg _ (funext fun f => ?_)
    cases f <;> first | exact ih | (rw [pure_bind])
/-- a body in two parts -/
theorem execs_cut {M : Model} {A : Around} {E : Value → Shared → Prop} {env : Env} {s : Shared} {Q : Flow → Shared → Prop} (n : Nat) {l : List Stmt}
    (h : wpAny M A (execs (l.take n) env) (fun f s' => match f with | .next => wpAny M A (execs (l.drop n) env) Q E s' | f => Q f s') E s) : wpAny M A (execs l env) Q E s := by
  rw [← List.take_append_drop n l, execs_append_eq]
  refine wpAny_bind (wpAny_mono h (fun f s' hf => ?_) fun _ _ x => x)
  cases f <;> first | exact hf | exact wpAny_pure hf
/-- the first part leaves what the second wants -/
theorem execs_cutP {M : Model} {A : Around} {E : Value → Shared → Prop} {env : Env} {s : Shared} {Q : Flow → Shared → Prop} (P : Shared → Prop) (n : Nat) {l : List Stmt}
    (h : wpAny M A (execs (l.take n) env) (fun f s' => f = .next ∧ P s') E s) (k : ∀ s', P s' → wpAny M A (execs (l.drop n) env) Q E s') : wpAny M A (execs l env) Q E s :=
  execs_cut n (wpAny_mono h (fun f s' hf => by obtain ⟨rfl, hp⟩ := hf; exact k s' hp) fun _ _ x => x)

/-- the same, its end hidden from the walk -/
@[irreducible] def Hid (P : Shared → Prop) (f : Flow) (s : Shared) : Prop := f = .next ∧ P s
theorem Hid.intro {P : Shared → Prop} {s : Shared} (h : P s) : Hid P .next s := by unfold Hid; exact ⟨rfl, h⟩
theorem Hid.out {P : Shared → Prop} {f : Flow} {s : Shared} (h : Hid P f s) : f = .next ∧ P s := by unfold Hid at h; exact h
theorem execs_cutH {M : Model} {A : Around} {E : Value → Shared → Prop} {env : Env} {s : Shared} {Q : Flow → Shared → Prop} (P : Shared → Prop) (n : Nat) {l : List Stmt}
    (h : wpAny M A (execs (l.take n) env) (Hid P) E s) (k : ∀ s', P s' → wpAny M A (execs (l.drop n) env) Q E s') : wpAny M A (execs l env) Q E s :=
  execs_cutP P n (wpAny_mono h (fun _ _ x => x.out) fun _ _ x => x) k

set_option maxHeartbeats 4000000 in
theorem no_number_ct (w : World) {loose mean mg mb} {news : List (Addr × Obj)} (x : PySem.Str) (t : Tok) (hx : x.length ≤ 100) :
    LeafCt w loose mean mg mb 144 news [.str x t] (fun v news' => news' = news ∧ ∃ u, v = .str (PySem.Str.ofString "invalid literal for int() with base 10: '" ++ x ++ PySem.Str.ofString "'") u) := by
  intro dp un gd cn cs a ccd cl outer A₀ base h₀ L m s Q E B F X N T hk hd hu hret
  refine wpAny_call ?_
  k_dflt cell_enter
  k_steps
  exact hret _ _ _ _ (by k_asm) (by k_asm) ⟨rfl, _, rfl⟩
local macro_rules | `(tactic| walk_at "execs cons") => `(tactic| (k_here; (with_reducible refine gen_toks ?_); intro tk'))
local macro_rules | `(tactic| walk_at "execs nil") => `(tactic| (k_here; (with_reducible refine gen_toks ?_); intro tk'))
abbrev mapOf {h₀ : Heap} {L : Addr} {h : Heap} {m : PySem.Str → Option Value} (_ : Fr h₀ L h m) : PySem.Str → Option Value := m
abbrev groundOf {h₀ : Heap} {L : Addr} {h : Heap} {m : PySem.Str → Option Value} (_ : Fr h₀ L h m) : Heap := h₀
abbrev frameOf' {h₀ : Heap} {L : Addr} {h : Heap} {m : PySem.Str → Option Value} (_ : Fr h₀ L h m) : Addr := L

/-- the years that the law's tables hold, from the epoch on -/
def yearsL : List Int := [2000, 1970, 9999, 2100, 1999, 2024, 2038, 1972, 2001, 2400, 1971]
def leapsZ (y : Int) : Int := (y - 1969).fdiv 4 - (y - 1901).fdiv 100 + (y - 1601).fdiv 400
def febZ (y : Int) : Int := if y.fmod 400 = 0 ∨ (y.fmod 4 = 0 ∧ ¬ y.fmod 100 = 0) then 29 else 28
def firstZ (y mo : Int) : Int := 365 * (y - 1970) + leapsZ y + (List.take (mo - 1).toNat [31, febZ y, 31, 30, 31, 30, 31, 31, 30, 31, 30, 31]).sum
set_option maxHeartbeats 20000000 in
theorem first_ct (w : World) {loose mean mg mb} {news : List (Addr × Obj)} (y mo : Int) (t u : Tok) (hy : y ∈ yearsL) (hm : 1 ≤ mo ∧ mo ≤ 12) :
    LeafCt w loose mean mg mb 123 news [.int y t, .int mo u] (fun v news' => news' = news ∧ ∃ t, v = .int (firstZ y mo) t) := by
  intro dp un gd cn cs a ccd cl outer A₀ base h₀ L m s Q E B F X N T hk hd hu hret
  refine wpAny_call ?_
  k_dflt cell_enter
  rename Fr _ _ _ _ => F0
  rename News _ _ _ _ => N0
  refine execs_cutH (fun s' => ∃ (h1 : Heap) (tk : Nat) (l : Addr) (k : Nat) (q le : Int) (tl t29 : Tok) (u0 u1 u2 u3 u4 u5 u6 u7 u8 u9 u10 : Tok), s' = { s with heap := h1, toks := tk } ∧ q = febZ y ∧ le = leapsZ y ∧
      Fr (groundOf F0) (frameOf' F0) h1 (fun z => if z = PySem.Str.ofString "lengths" then some (.ref l) else if z = PySem.Str.ofString "leaps" then some (.int le tl) else mapOf F0 z) ∧
      News (groundOf F0) (frameOf' F0) h1 ((l, listOf [Value.int 31 u0, .int q t29, .int 31 u1, .int 30 u2, .int 31 u3, .int 30 u4, .int 31 u5, .int 31 u6, .int 30 u7, .int 31 u8, .int 30 u9, .int 31 u10].toArray k) :: news)) 3 ?A ?B
  case A =>
    dsimp only [List.take]
    clear hret
    have hyb : 1970 ≤ y ∧ y ≤ 9999 := by
      simp only [yearsL, List.mem_cons, List.not_mem_nil, or_false] at hy
      omega
    clear hy
    k_steps
    all_goals (
      refine' Hid.intro ⟨_, _, _, _, _, _, _, _, _, _, _, _, _, _, _, _, _, _, _, rfl, ?c0, ?c1, ?c2, ?c3⟩
      case c2 => k_asm
      case c3 => k_asm
      case c0 => simp [febZ, *]
      case c1 => rfl)
  intro s' hs'
  obtain ⟨h1, tk, l, k, q, le, tl, t29, u0, u1, u2, u3, u4, u5, u6, u7, u8, u9, u10, rfl, hq, hle, F1, N1⟩ := hs'
  have hqb : 28 ≤ q ∧ q ≤ 29 := by rw [hq]; unfold febZ; split <;> omega
  have hyb : 1970 ≤ y ∧ y ≤ 9999 := by
    simp only [yearsL, List.mem_cons, List.not_mem_nil, or_false] at hy
    omega
  have hlb : 0 ≤ le ∧ le ≤ 9999 := by rw [hle]; exact (by decide : ∀ y ∈ yearsL, 0 ≤ leapsZ y ∧ leapsZ y ≤ 9999) y hy
  clear hy
  dsimp only [List.drop]
  dsimp only [groundOf, frameOf', mapOf] at F1 N1
  k_steps
  all_goals (
    refine' hret _ news _ _ ?k1 (cb_drop ?k2 ?k3) ⟨rfl, _, ?k4⟩
    case k1 => k_asm
    case k2 => k_asm
    case k3 => intro p hp; simp only [List.mem_cons]; simp only [hp, or_true]
    case k4 => rw [hq, hle]; rfl)
end Mine
end

section
open PySem PySem.W PyProof.Rows
namespace Mine
open PySem.Calls

abbrev Keeps (h h' : Heap) : Prop := ∀ b o, h.get? b = some o → h'.get? b = some o
theorem News.kept {h₀ h h' : Heap} {L : Addr} {news : List (Addr × Obj)} (N : News h₀ L h news) (k : Keeps h h') : News h₀ L h' news := fun p hp => ⟨k _ _ (N p hp).1, (N p hp).2⟩

section
variable {prog : Program} {w : World} {A₀ A : Around} {s : Shared} {base h₀ : Heap} {outer : List Env} {L : Addr} {m : PySem.Str → Option Value} {env : Env} {news : List (Addr × Obj)} {K : Frag} {p : Program} {loose : List PySem.Str} {mean : ExcName → Option Value} {mg mb : PySem.Str → Option Value}
  {R : Value → Shared → Prop} {E : Value → Shared → Prop} {name qual : PySem.Str} {params : Arguments} {body : List Stmt} {scope : Scope} {dV kV doc pm cdv ct oc : Value} {an od : Option Addr} {osl : Array (Option Value)} {f : Addr} {vs : List Value} {binds : List (PySem.Str × Value)}

/-- a def of the text is entered; the ledger is short, all else is ground; whoever ends with the ledger as it was has kept all that stood -/
theorem leaf_enter (B : Below A₀ base outer h₀) (F : Fr h₀ L s.heap m) (X₀ : K.In h₀) (N : News h₀ L s.heap news) (T : Top p loose mean mg mb h₀) (hA : A.frames = some (env :: outer)) (hf : env.frame = some L) (hke : env.scope.kind = .function)
    (ho : K.lookup f = some ⟨oc, od, .func (fnOf name qual params body scope dV kV doc pm an cdv ct), osl⟩) (hcd : codeIn K cdv qual = true) (hroom : A.depth < recursionLimit)
    (hbind : BindsTo s (fnOf name qual params body scope dV kV doc pm an cdv ct) ⟨vs, []⟩ binds) (hloc : ∀ y ∈ binds, scope.names.lookup y.1 = some .local)
    (h : ∀ g L' h₁, Fr g L' h₁ (fun y => binds.reverse.lookup y) → News g L' h₁ news → Below A base (env :: outer) g → K.In g → Top p loose mean mg mb g →
      (∀ L'' h' m', Fr g L'' h' m' → News g L'' h' news → Keeps s.heap h') →
      wpAny (model prog w) (A.deeper (envOf qual scope L' f cdv)) (execs body (envOf qual scope L' f cdv))
        (fun fl s' => R (match fl with | .ret v => v | _ => .none) s') (fun e s' => False)
        { s with heap := h₁, toks := s.toks + binds.length })
    (hco : scope.isCoroutine = false) (hgen : scope.isGenerator = false) (hk : scope.kind = .function)
    (hcell : ∀ x ∈ scope.names, x.2 ≠ .cell) : wpAny (model prog w) A (call (.ref f) vs) R E s := by
  refine wpAny_call ?_
  have X := X₀.keeps F.keep
  obtain ⟨FG, BG, st, _⟩ := groundX (R := fun _ _ => True) B F N hA hf hke
  refine codeAny_call_def (fd := fnOf name qual params body scope dV kV doc pm an cdv ct) (body := body) (binds := binds) hroom (X _ _ ho) rfl (T.nolimit.keeps F.keep) (codeRec_of X hcd) rfl hbind hcell hloc (fun h₁ hns hk₁ => ?_) hco hgen hk
  refine wpAny_mono (h _ s.heap.objs.size h₁ ⟨hns, fun b o e => hk₁ b o (of_hideAll _ e), Nat.le_of_eq (hideAll_size _ _)⟩
    (fun p hp => ⟨hk₁ _ _ (N p hp).1, Nat.ne_of_lt (Heap.lt_size (N p hp).1), hideAll_none _ (List.mem_map_of_mem hp)⟩) BG (X₀.keeps st) (T.keeps st) fun L'' h' m' F' N' b o e => ?_) (fun fl s' hl => hl) fun _ _ y => y.elim
  by_cases hb : b ∈ news.map (·.1)
  · obtain ⟨q, hq, rfl⟩ := List.mem_map.mp hb
    have := (N q hq).1
    rw [e] at this
    cases this
    exact (N' q hq).1
  · exact F'.keep b o (hideAll_get _ e hb)
end

/-- what a call of one of the text's defs comes to: no raise, all that stood is as it was -/
abbrev LeafH (w : World) (loose : List PySem.Str) (mean : ExcName → Option Value) (mg mb : PySem.Str → Option Value) (f : Addr) (news : List (Addr × Obj)) (vs : List Value) (R : Value → Heap → Prop) : Prop :=
  ∀ (dp un : Nat) (gd : Option (List Code)) (cn : PySem.Str) (cs : Scope) (a : Addr) (ccd : Value) (cl : List (PySem.Str × Addr)) (outer : List Env) (A₀ : Around) (base h₀ : Heap) (L : Addr) (m : PySem.Str → Option Value) (s : Shared) (Q E : Value → Shared → Prop),
    Below A₀ base outer h₀ → Fr h₀ L s.heap m → (MineTop.hd.heap_39 w.params).In h₀ → News h₀ L s.heap news → Top MineTop.hd.view_39 loose mean mg mb h₀ → cs.kind = .function →
      dp + 12 < recursionLimit → un + 80 < cLine →
      (∀ v h' tk', Keeps s.heap h' → R v h' → Q v { s with heap := h', toks := tk' }) →
      wpAny (model PySem.Challenge.pw_in0098_01 w) (ktrTop dp un gd cn cs L a ccd cl outer) (call (.ref f) vs) Q E s
end Mine
end

section
open PySem PySem.W PyProof.Rows
namespace Mine
open PySem.Calls

abbrev tupOf (vs : List Value) : Obj := { cls := .type "tuple", data := .seq vs.toArray }
def IsT (o : Option PySem.Str) (v : Value) : Prop := match o with
  | none => v = .none
  | some s => ∃ t, v = .str s t
def IsN (o : Option Int) (v : Value) : Prop := match o with
  | none => v = .none
  | some n => ∃ t, v = .int n t
inductive All2 {α β : Type} (R : α → β → Prop) : List α → List β → Prop
  | nil : All2 R [] []
  | cons {a b l₁ l₂} : R a b → All2 R l₁ l₂ → All2 R (a :: l₁) (b :: l₂)
theorem All2.length_eq {α β : Type} {R : α → β → Prop} {l₁ : List α} {l₂ : List β} (h : All2 R l₁ l₂) : l₁.length = l₂.length := by
  induction h with
  | nil => rfl
  | cons _ _ ih => simp only [List.length_cons, ih]
theorem All2.get {α β : Type} {R : α → β → Prop} {l₁ : List α} {l₂ : List β} (h : All2 R l₁ l₂) : ∀ {i : Nat} {a : α}, l₁[i]? = some a → ∃ b, l₂[i]? = some b ∧ R a b := by
  induction h with
  | nil => intro i a e; simp at e
  | cons r _ ih =>
    intro i a e
    cases i with
    | zero => simp at e; subst e; exact ⟨_, rfl, r⟩
    | succ i => simp at e; obtain ⟨b, h1, h2⟩ := ih e; exact ⟨b, by simpa using h1, h2⟩
abbrev Fits2 : List (Value → Prop) → List Value → Prop := All2 (fun P v => P v)

section
variable {prog : Program} {w : World} {A : Around} {E : Value → Shared → Prop} {s : Shared} {env : Env} {h₀ : Heap} {L : Addr} {m : PySem.Str → Option Value} {news : List (Addr × Obj)}

structure Lit (prog : Program) (w : World) (env : Env) (e : Expr) (P : Value → Prop) : Prop where
  star : ∀ rest, starEach (e :: rest) env = (false, eval e env) :: starEach rest env
  ev : ∀ (A : Around) (E : Value → Shared → Prop) (s : Shared) (Q : Value → Shared → Prop), (∀ v tk, P v → Q v { s with toks := tk }) → wpAny (model prog w) A (eval e env) Q E s

theorem lit_none {k pos} : Lit prog w env (.Constant .none k pos) (IsN none) := ⟨fun _ => rfl, fun A E s Q h => wpAny_pure (h .none s.toks rfl)⟩
theorem lit_noneT {k pos} : Lit prog w env (.Constant .none k pos) (IsT none) := ⟨fun _ => rfl, fun A E s Q h => wpAny_pure (h .none s.toks rfl)⟩
theorem lit_str {x k pos} : Lit prog w env (.Constant (.str x) k pos) (IsT (some x)) := ⟨fun _ => rfl, fun A E s Q h => Constant_str (h _ _ ⟨_, rfl⟩)⟩
theorem lit_int {n : Int} {k pos} : Lit prog w env (.Constant (.int n) k pos) (IsN (some n)) := ⟨fun _ => rfl, fun A E s Q h => fun _ _ _ => h _ _ ⟨_, rfl⟩⟩

theorem spliced_lits : ∀ {es : List Expr} {Ps : List (Value → Prop)}, All2 (Lit prog w env) es Ps → ∀ {A : Around} {E : Value → Shared → Prop} {s : Shared} {pos : Pos} {Q : List Value → Shared → Prop},
    (∀ vs tk, Fits2 Ps vs → Q vs { s with toks := tk }) → wpAny (model prog w) A (spliced (backTo pos (starEach es env))) Q E s
  | _, _, .nil, _, _, s, _, _, h => spliced_nil (h [] s.toks .nil)
  | _, _, .cons (a := e) (l₁ := es) hl hr, A, E, s, pos, Q, h => by
    rw [hl.star es]
    show wpAny _ _ (spliced ((false, eval e env) :: backTo pos (starEach es env))) _ _ _
    exact spliced_cons (hl.ev _ _ _ _ fun v tk hv => spliced_lits hr fun vs tk' hvs => h (v :: vs) tk' (.cons hv hvs))

structure TupLit (prog : Program) (w : World) (env : Env) (e : Expr) (Ps : List (Value → Prop)) : Prop where
  is : ∃ es k pos, e = .Tuple es k pos ∧ All2 (Lit prog w env) es Ps ∧ es.length ≤ 100
theorem TupLit.star {e : Expr} {Ps : List (Value → Prop)} (T : TupLit prog w env e Ps) (rest : List Expr) : starEach (e :: rest) env = (false, eval e env) :: starEach rest env := by
  obtain ⟨es, k, pos, rfl, _⟩ := T.is
  rfl
theorem TupLit.ev {e : Expr} {Ps : List (Value → Prop)} (T : TupLit prog w env e Ps) {Q : Value → Shared → Prop} (F : Fr h₀ L s.heap m) (N : News h₀ L s.heap news)
    (h : ∀ a vs h' tk, Fr h₀ L h' m → News h₀ L h' ((a, tupOf vs) :: news) → Fits2 Ps vs → Q (.ref a) { s with heap := h', toks := tk }) : wpAny (model prog w) A (eval e env) Q E s := by
  obtain ⟨es, k, pos, rfl, hes, hl⟩ := T.is
  refine Tuple_ (spliced_lits hes fun vs tk hvs => ?_)
  have hlen : vs.length = es.length := by rw [← hvs.length_eq, hes.length_eq]
  exact kup_newTuple F N (fun D h' F' N' _ => h D vs h' tk F' N' hvs) (by rw [hlen, sizeLine_eq]; omega)

/-- the tuples of a table, each at its own address -/
abbrev TupsAt (news : List (Addr × Obj)) : List (List (Value → Prop)) → List Addr → Prop := All2 (fun Ps a => ∃ vs, (a, tupOf vs) ∈ news ∧ Fits2 Ps vs)
theorem TupsAt.mono {n n' : List (Addr × Obj)} {Pss : List (List (Value → Prop))} {as : List Addr} (hs : ∀ p ∈ n, p ∈ n') (h : TupsAt n Pss as) : TupsAt n' Pss as := by
  induction h with
  | nil => exact .nil
  | cons a _ ih => exact .cons (let ⟨vs, hm, hf⟩ := a; ⟨vs, hs _ hm, hf⟩) ih

theorem spliced_tups : ∀ {es : List Expr} {Pss : List (List (Value → Prop))}, All2 (TupLit prog w env) es Pss → ∀ {A : Around} {E : Value → Shared → Prop} {s : Shared} {pos : Pos} {news : List (Addr × Obj)} {Q : List Value → Shared → Prop},
    Fr h₀ L s.heap m → News h₀ L s.heap news →
    (∀ as new h' tk, Fr h₀ L h' m → News h₀ L h' (new ++ news) → TupsAt new Pss as → Q (as.map .ref) { s with heap := h', toks := tk }) → wpAny (model prog w) A (spliced (backTo pos (starEach es env))) Q E s
  | _, _, .nil, _, _, s, _, _, _, F, N, h => spliced_nil (h [] [] s.heap s.toks F N .nil)
  | _, _, .cons (a := e) (l₁ := es) hl hr, A, E, s, pos, news, Q, F, N, h => by
    rw [hl.star es]
    show wpAny _ _ (spliced ((false, eval e env) :: backTo pos (starEach es env))) _ _ _
    refine spliced_cons (hl.ev F N fun a vs h' tk F' N' hv => spliced_tups hr F' N' fun as new h'' tk' F'' N'' hT => ?_)
    refine h (a :: as) (new ++ [(a, tupOf vs)]) h'' tk' F'' (by rw [List.append_assoc]; exact N'') (.cons ⟨vs, List.mem_append_right _ (List.Mem.head _), hv⟩ (hT.mono fun p hp => List.mem_append_left _ hp))
end

section
variable {prog : Program} {w : World} {A : Around} {E : Value → Shared → Prop} {s : Shared} {h₀ : Heap} {L a : Addr} {m : PySem.Str → Option Value} {news : List (Addr × Obj)} {name : PySem.Str} {scope : Scope} {cd : Value}
/-- NAME = [(..), (..), ..] : a table of tuples of written values -/
theorem assign_menu {x : PySem.Str} {es : List Expr} {Pss : List (List (Value → Prop))} {rest : List Stmt} {p1 p2 p3 : Pos} {Q : Flow → Shared → Prop}
    (F : Fr h₀ L s.heap m) (N : News h₀ L s.heap news) (hes : All2 (TupLit prog w (envOf name scope L a cd)) es Pss) (hlen : es.length ≤ 100)
    (h : ∀ l as new h' tk, Fr h₀ L h' (fun y => if y = x then some (.ref l) else m y) → News h₀ L h' ((l, listOf (as.map Value.ref).toArray 0) :: (new ++ news)) → TupsAt new Pss as →
      wpAny (model prog w) A (execs rest (envOf name scope L a cd)) Q E { s with heap := h', toks := tk })
    (hk : scope.kind = .function := by rfl) (hl : (envOf name scope L a cd).kindOf x = some .local := by rfl)
    (hs : swapsWith (.List es p3) (some (.Name x p1)) p2.line (envOf name scope L a cd) = pure false := by rfl) :
    wpAny (model prog w) A (execs (.Assign [.Name x p1] (.List es p3) p2 :: rest) (envOf name scope L a cd)) Q E s := by
  refine wpAny_execs_cons (wpAny_Assign_Name ?_ hs)
  refine List_ (spliced_tups hes F N fun as new h' tk F' N' hT => ?_)
  have e : as.length = es.length := by rw [← hT.length_eq, hes.length_eq]
  refine newList_K F' N' (fun l h'' F'' N'' _ => stN F'' N'' (fun h3 F3 N3 => ?_) hk hl) (by rw [List.length_map, e, sizeLine_eq]; omega)
  exact h l as new h3 _ F3 N3 hT
end
end Mine
end

section
open PySem PySem.W PyProof.Rows
namespace Mine
open PySem.Calls

abbrev Fld := Option PySem.Str × Option Int
abbrev S (x : String) : PySem.Str := PySem.Str.ofString x
def daysM : List Fld := [(some (S "1"), some 1), (some (S "31"), some 31), (some (S " 07"), some 7), (some (S "1_5"), some 15), (some (S "28"), some 28), (some (S "+3"), some 3), (some (S "30"), some 30)]
def monthsM : List Fld := [(some (S "feb"), some 2), (some (S "JAN"), some 1), (some (S "Mar"), some 3), (some (S "aPR"), some 4), (some (S "may"), some 5), (some (S "Jun"), some 6), (some (S "jul"), some 7), (some (S "AUG"), some 8), (some (S "Sep"), some 9), (some (S "oct"), some 10), (some (S "nov"), some 11), (some (S "DEC"), some 12), (some (S "02"), some 2), (some (S "12"), some 12), (some (S " 4 "), some 4), (some (S "1_1"), some 11), (some (S "7"), some 7)]
def yearsM : List Fld := [(some (S "2000"), some 2000), (some (S "1970"), some 1970), (some (S "9999"), some 9999), (some (S "2100"), some 2100), (some (S " 1999 "), some 1999), (some (S "2_024"), some 2024), (some (S "2038"), some 2038), (some (S "1972"), some 1972), (some (S "+2001"), some 2001), (some (S "2400"), some 2400), (some (S "1_971"), some 1971)]
def hoursM : List Fld := [(none, some 0), (some (S "23"), some 23), (some (S "0"), some 0), (some (S "24"), some 24), (some (S "0_9"), some 9)]
def minutesM : List Fld := [(some (S "59"), some 59), (none, some 0), (some (S " 5 "), some 5)]
def secondsM : List Fld := [(none, some 0), (some (S "61"), some 61), (some (S "0"), some 0), (some (S "08"), some 8), (some (S "59"), some 59), (some (S "+1"), some 1), (some (S "7"), some 7), (some (S "60"), some 60), (some (S "30"), some 30), (some (S "1_0"), some 10), (some (S " 2 "), some 2), (some (S "-0"), some 0), (some (S "44"), some 44)]
abbrev fldP (f : Fld) : List (Value → Prop) := [IsT f.1, IsN f.2]

/-- a field's tuple stands there -/
def FldAt (news : List (Addr × Obj)) (f : Fld) (a : Addr) : Prop := ∃ v n, (a, tupOf [v, n]) ∈ news ∧ IsT f.1 v ∧ IsN f.2 n
theorem FldAt.mono {n n' : List (Addr × Obj)} {f : Fld} {a : Addr} (hs : ∀ p ∈ n, p ∈ n') (h : FldAt n f a) : FldAt n' f a :=
  let ⟨v, k, hm, r⟩ := h; ⟨v, k, hs _ hm, r⟩
/-- a list of six fields -/
def FldsAt (news : List (Addr × Obj)) (Fs : List Fld) (l : Addr) : Prop := ∃ as n, (l, listOf (as.map Value.ref).toArray n) ∈ news ∧ All2 (FldAt news) Fs as
theorem FldsAt.mono {n n' : List (Addr × Obj)} {Fs : List Fld} {l : Addr} (hs : ∀ p ∈ n, p ∈ n') (h : FldsAt n Fs l) : FldsAt n' Fs l := by
  obtain ⟨as, k, hm, h⟩ := h
  refine ⟨as, k, hs _ hm, ?_⟩
  clear hm
  induction h with
  | nil => exact .nil
  | cons a _ ih => exact .cons (a.mono hs) ih
theorem fld_of {news : List (Addr × Obj)} {M : List Fld} {as : List Addr} (h : TupsAt news (M.map fldP) as) {i : Nat} {f : Fld} {a : Addr} (hf : M[i]? = some f) (ha : as[i]? = some a) : FldAt news f a := by
  obtain ⟨b, hb, vs, hm, hv⟩ := h.get (i := i) (a := fldP f) (by simp [hf])
  rw [ha] at hb
  cases hb
  cases hv with
  | cons h1 hr => cases hr with
    | cons h2 hr => cases hr; exact ⟨_, _, hm, h1, h2⟩

section
variable {prog : Program} {w : World} {A : Around} {E : Value → Shared → Prop} {s : Shared} {h₀ : Heap} {L : Addr} {news : List (Addr × Obj)}
theorem item_tab {value slice : PySem.Expr} {l : Addr} {as : List Addr} {n : Nat} {k : Int} {u : Tok} {Q : Value → Shared → Prop} (N : News h₀ L s.heap news) (hm : (l, listOf (as.map Value.ref).toArray n) ∈ news) (h0 : 0 ≤ k) (hk : k < (as.length : Int)) (hz : k < 1000)
    (h : ∀ a, as[k.toNat]? = some a → Q (.ref a) s)
    (hs : subscripted slice false (.ref l) (.int k u) = operate [.ref l, .int k u] (getItem (.ref l) (.int k u))) :
    wpAny (model prog w) A (subscriptTail value slice (.ref l) (.int k u)) Q E s := by
  have hlt : k.toNat < as.length := by omega
  have hl : s.heap.IsList l (as.map Value.ref).toArray := ⟨_, (N _ hm).1, rfl, _, rfl⟩
  exact tail_any hl.typeIs PySem.slot_list_getitem.lookup (wpAny_getItem_list hl h0 (by omega) (x := .ref as[k.toNat]) (by simp [List.getElem?_eq_getElem hlt]) (h _ (List.getElem?_eq_getElem hlt))) hs
end
def fieldsOf (x : Int) : List (Option Fld) := [daysM[(x.fmod 7).toNat]?, monthsM[(x.fmod 17).toNat]?, yearsM[(x.fmod 11).toNat]?, hoursM[(x.fmod 5).toNat]?, minutesM[(x.fmod 3).toNat]?, secondsM[(x.fmod 13).toNat]?]

local macro_rules | `(tactic| walk_at "MENU") => `(tactic| repeat' (first | exact All2.nil | refine All2.cons ?_ ?_ | exact lit_str | exact lit_int | exact lit_noneT | exact lit_none | (refine TupLit.mk ⟨_, _, _, rfl, ?_, ?lenx⟩; (case lenx => exact Nat.le_of_ble_eq_true rfl))))
local macro_rules | `(tactic| walk_at "subscriptTail") => `(tactic| (k_here; (with_reducible show wpAny _ _ (subscriptTail _ _ (Value.ref _) (Value.int _ _)) _ _ _); (with_unfolding_all refine' item_tab ?N ?hm ?h0 ?h1 ?hz ?_ ?hs; (case N => k_asm); (case hm => assumption); (case h0 => omega); (case h1 => omega); (case hz => omega); (case hs => with_unfolding_all rfl); k_whole); intro _ _))

set_option maxHeartbeats 400000 in
theorem fields_ct (w : World) {loose mean mg mb} {news : List (Addr × Obj)} (x : Int) (t : Tok) :
    LeafCt w loose mean mg mb 130 news [.int x t] (fun v news' => (∀ p ∈ news, p ∈ news') ∧ ∃ l Fs, v = .ref l ∧ FldsAt news' Fs l ∧ Fs.map some = fieldsOf x) := by
  intro dp un gd cn cs a ccd cl outer A₀ base h₀ L m s Q E B F X N T hk hd hu hret
  refine wpAny_call ?_
  k_dflt cell_enter
  rename Fr _ _ _ _ => F0
  rename News _ _ _ _ => N0
  refine' assign_menu (Pss := daysM.map fldP) ?F1 ?N1 ?hes1 ?hlen1 ?r1 ?hk1 ?hl1 ?hs1
  case F1 => exact F0
  case N1 => exact N0
  case hes1 => walk_at "MENU"
  case hlen1 => exact Nat.le_of_ble_eq_true rfl
  case hk1 => rfl
  case hl1 => rfl
  case hs1 => rfl
  intro l1 as1 new1 h1 tk1 F1 N1 T1
  refine' assign_menu (Pss := monthsM.map fldP) ?F2 ?N2 ?hes2 ?hlen2 ?r2 ?hk2 ?hl2 ?hs2
  case F2 => exact F1
  case N2 => exact N1
  case hes2 => walk_at "MENU"
  case hlen2 => exact Nat.le_of_ble_eq_true rfl
  case hk2 => rfl
  case hl2 => rfl
  case hs2 => rfl
  intro l2 as2 new2 h2 tk2 F2 N2 T2
  refine' assign_menu (Pss := yearsM.map fldP) ?F3 ?N3 ?hes3 ?hlen3 ?r3 ?hk3 ?hl3 ?hs3
  case F3 => exact F2
  case N3 => exact N2
  case hes3 => walk_at "MENU"
  case hlen3 => exact Nat.le_of_ble_eq_true rfl
  case hk3 => rfl
  case hl3 => rfl
  case hs3 => rfl
  intro l3 as3 new3 h3 tk3 F3 N3 T3
  refine' assign_menu (Pss := hoursM.map fldP) ?F4 ?N4 ?hes4 ?hlen4 ?r4 ?hk4 ?hl4 ?hs4
  case F4 => exact F3
  case N4 => exact N3
  case hes4 => walk_at "MENU"
  case hlen4 => exact Nat.le_of_ble_eq_true rfl
  case hk4 => rfl
  case hl4 => rfl
  case hs4 => rfl
  intro l4 as4 new4 h4 tk4 F4 N4 T4
  refine' assign_menu (Pss := minutesM.map fldP) ?F5 ?N5 ?hes5 ?hlen5 ?r5 ?hk5 ?hl5 ?hs5
  case F5 => exact F4
  case N5 => exact N4
  case hes5 => walk_at "MENU"
  case hlen5 => exact Nat.le_of_ble_eq_true rfl
  case hk5 => rfl
  case hl5 => rfl
  case hs5 => rfl
  intro l5 as5 new5 h5 tk5 F5 N5 T5
  refine' assign_menu (Pss := secondsM.map fldP) ?F6 ?N6 ?hes6 ?hlen6 ?r6 ?hk6 ?hl6 ?hs6
  case F6 => exact F5
  case N6 => exact N5
  case hes6 => walk_at "MENU"
  case hlen6 => exact Nat.le_of_ble_eq_true rfl
  case hk6 => rfl
  case hl6 => rfl
  case hs6 => rfl
  intro l6 as6 new6 h6 tk6 F6 N6 T6
  clear F0 F1 F2 F3 F4 F5 N0 N1 N2 N3 N4 N5
  have e1 : as1.length = 7 := T1.length_eq.symm
  have e2 : as2.length = 17 := T2.length_eq.symm
  have e3 : as3.length = 11 := T3.length_eq.symm
  have e4 : as4.length = 5 := T4.length_eq.symm
  have e5 : as5.length = 3 := T5.length_eq.symm
  have e6 : as6.length = 13 := T6.length_eq.symm
  have b1 : 0 ≤ x.fmod 7 ∧ x.fmod 7 < 7 := ⟨Int.fmod_nonneg_of_pos x (by decide), Int.fmod_lt_of_pos x (by decide)⟩
  have b2 : 0 ≤ x.fmod 17 ∧ x.fmod 17 < 17 := ⟨Int.fmod_nonneg_of_pos x (by decide), Int.fmod_lt_of_pos x (by decide)⟩
  have b3 : 0 ≤ x.fmod 11 ∧ x.fmod 11 < 11 := ⟨Int.fmod_nonneg_of_pos x (by decide), Int.fmod_lt_of_pos x (by decide)⟩
  have b4 : 0 ≤ x.fmod 5 ∧ x.fmod 5 < 5 := ⟨Int.fmod_nonneg_of_pos x (by decide), Int.fmod_lt_of_pos x (by decide)⟩
  have b5 : 0 ≤ x.fmod 3 ∧ x.fmod 3 < 3 := ⟨Int.fmod_nonneg_of_pos x (by decide), Int.fmod_lt_of_pos x (by decide)⟩
  have b6 : 0 ≤ x.fmod 13 ∧ x.fmod 13 < 13 := ⟨Int.fmod_nonneg_of_pos x (by decide), Int.fmod_lt_of_pos x (by decide)⟩
  let NS := (l6, listOf (as6.map Value.ref).toArray 0) :: (new6 ++ ((l5, listOf (as5.map Value.ref).toArray 0) :: (new5 ++ ((l4, listOf (as4.map Value.ref).toArray 0) :: (new4 ++ ((l3, listOf (as3.map Value.ref).toArray 0) :: (new3 ++ ((l2, listOf (as2.map Value.ref).toArray 0) :: (new2 ++ ((l1, listOf (as1.map Value.ref).toArray 0) :: (new1 ++ news)))))))))))
  have M1 : (l1, listOf (as1.map Value.ref).toArray 0) ∈ NS := by simp [NS]
  have M2 : (l2, listOf (as2.map Value.ref).toArray 0) ∈ NS := by simp [NS]
  have M3 : (l3, listOf (as3.map Value.ref).toArray 0) ∈ NS := by simp [NS]
  have M4 : (l4, listOf (as4.map Value.ref).toArray 0) ∈ NS := by simp [NS]
  have M5 : (l5, listOf (as5.map Value.ref).toArray 0) ∈ NS := by simp [NS]
  have M6 : (l6, listOf (as6.map Value.ref).toArray 0) ∈ NS := by simp [NS]
  have U1 : TupsAt NS (daysM.map fldP) as1 := T1.mono (by intro p hp; simp [NS, hp])
  have U2 : TupsAt NS (monthsM.map fldP) as2 := T2.mono (by intro p hp; simp [NS, hp])
  have U3 : TupsAt NS (yearsM.map fldP) as3 := T3.mono (by intro p hp; simp [NS, hp])
  have U4 : TupsAt NS (hoursM.map fldP) as4 := T4.mono (by intro p hp; simp [NS, hp])
  have U5 : TupsAt NS (minutesM.map fldP) as5 := T5.mono (by intro p hp; simp [NS, hp])
  have U6 : TupsAt NS (secondsM.map fldP) as6 := T6.mono (by intro p hp; simp [NS, hp])
  have U0 : ∀ p ∈ news, p ∈ NS := by intro p hp; simp [NS, hp]
  have N7 : News _ _ _ NS := N6
  clear N6
  clear_value NS
  clear T1 T2 T3 T4 T5 T6
  k_steps
  rename (as1[(x.fmod 7).toNat]? = some _) => g1
  rename (as2[(x.fmod 17).toNat]? = some _) => g2
  rename (as3[(x.fmod 11).toNat]? = some _) => g3
  rename (as4[(x.fmod 5).toNat]? = some _) => g4
  rename (as5[(x.fmod 3).toNat]? = some _) => g5
  rename (as6[(x.fmod 13).toNat]? = some _) => g6
  obtain ⟨f1, q1⟩ : ∃ f, daysM[(x.fmod 7).toNat]? = some f := ⟨_, List.getElem?_eq_getElem (by show _ < 7; omega)⟩
  obtain ⟨f2, q2⟩ : ∃ f, monthsM[(x.fmod 17).toNat]? = some f := ⟨_, List.getElem?_eq_getElem (by show _ < 17; omega)⟩
  obtain ⟨f3, q3⟩ : ∃ f, yearsM[(x.fmod 11).toNat]? = some f := ⟨_, List.getElem?_eq_getElem (by show _ < 11; omega)⟩
  obtain ⟨f4, q4⟩ : ∃ f, hoursM[(x.fmod 5).toNat]? = some f := ⟨_, List.getElem?_eq_getElem (by show _ < 5; omega)⟩
  obtain ⟨f5, q5⟩ : ∃ f, minutesM[(x.fmod 3).toNat]? = some f := ⟨_, List.getElem?_eq_getElem (by show _ < 3; omega)⟩
  obtain ⟨f6, q6⟩ : ∃ f, secondsM[(x.fmod 13).toNat]? = some f := ⟨_, List.getElem?_eq_getElem (by show _ < 13; omega)⟩
  refine hret _ _ _ _ (by k_asm) (by k_asm) ⟨fun p hp => List.mem_cons_of_mem _ (U0 p hp), _, [f1, f2, f3, f4, f5, f6], rfl, ⟨[_, _, _, _, _, _], 0, List.Mem.head _, ?_⟩, ?_⟩
  · exact .cons ((fld_of U1 q1 g1).mono fun p hp => List.mem_cons_of_mem _ hp) (.cons ((fld_of U2 q2 g2).mono fun p hp => List.mem_cons_of_mem _ hp) (.cons ((fld_of U3 q3 g3).mono fun p hp => List.mem_cons_of_mem _ hp)
      (.cons ((fld_of U4 q4 g4).mono fun p hp => List.mem_cons_of_mem _ hp) (.cons ((fld_of U5 q5 g5).mono fun p hp => List.mem_cons_of_mem _ hp) (.cons ((fld_of U6 q6 g6).mono fun p hp => List.mem_cons_of_mem _ hp) .nil)))))
  · simp only [List.map_cons, List.map_nil, fieldsOf, q1, q2, q3, q4, q5, q6]
end Mine
end

section
open PySem PySem.W PyProof.Rows
namespace Mine
open PySem.Calls
theorem lit_neg {prog : Program} {w : World} {env : Env} {n : Int} {k pos pos'} : Lit prog w env (.UnaryOp .USub (.Constant (.int n) k pos) pos') (IsN (some (-n))) :=
  ⟨fun _ => rfl, fun A E s Q h => wpAny_UnaryOp (fun _ _ _ => neg_int (h _ _ ⟨_, rfl⟩))⟩

abbrev Spo := Int × Fld
def spoilsM : List Spo := [(0, some (S "0"), some 0), (0, some (S "32"), some 32), (0, some (S "x"), none), (0, some (S "-1"), some (-1)), (0, some (S ""), none), (1, some (S "0"), some 0), (1, some (S "13"), some 13), (1, some (S "-3"), some (-3)), (1, some (S ""), some 0), (1, some (S "feb "), some 0), (1, some (S "Sept"), some 0),
  (2, some (S "x"), none), (2, some (S "10000"), some 10000), (2, some (S "1969"), some 1969), (3, some (S "25"), some 25), (3, some (S "-1"), some (-1)), (3, some (S "1x"), none), (4, some (S "60"), some 60), (4, some (S "x"), none), (5, some (S "62"), some 62), (5, some (S "29.5"), none)]
abbrev spoP (p : Spo) : List (Value → Prop) := [IsN (some p.1), IsT p.2.1, IsN p.2.2]

section
variable {prog : Program} {w : World} {A : Around} {E : Value → Shared → Prop} {s : Shared} {h₀ : Heap} {L a : Addr} {m : PySem.Str → Option Value} {news : List (Addr × Obj)} {name : PySem.Str} {scope : Scope} {cd : Value}
theorem return_menu {es : List PySem.Expr} {Pss : List (List (Value → Prop))} {rest : List Stmt} {p2 p3 : Pos} {Q : Flow → Shared → Prop}
    (F : Fr h₀ L s.heap m) (N : News h₀ L s.heap news) (hes : All2 (TupLit prog w (envOf name scope L a cd)) es Pss) (hlen : es.length ≤ 100)
    (h : ∀ l as new h' tk, Fr h₀ L h' m → News h₀ L h' ((l, listOf (as.map Value.ref).toArray 0) :: (new ++ news)) → TupsAt new Pss as → Q (.ret (.ref l)) { s with heap := h', toks := tk }) :
    wpAny (model prog w) A (execs (.Return (some (.List es p3)) p2 :: rest) (envOf name scope L a cd)) Q E s := by
  refine wpAny_execs_cons (wpAny_Return_some ?_)
  refine List_ (spliced_tups hes F N fun as new h' tk F' N' hT => ?_)
  have e : as.length = es.length := by rw [← hT.length_eq, hes.length_eq]
  refine newList_K F' N' (fun l h'' F'' N'' _ => ?_) (by rw [List.length_map, e, sizeLine_eq]; omega)
  exact h l as new h'' _ F'' N'' hT
end
local macro_rules | `(tactic| walk_at "MENU") => `(tactic| repeat' (first | exact All2.nil | refine All2.cons ?_ ?_ | exact lit_str | exact lit_int | exact lit_neg | exact lit_noneT | exact lit_none | (refine TupLit.mk ⟨_, _, _, rfl, ?_, ?lenx⟩; (case lenx => exact Nat.le_of_ble_eq_true rfl))))

set_option maxHeartbeats 8000000 in
theorem spoils_ct (w : World) {loose mean mg mb} {news : List (Addr × Obj)} :
    LeafCt w loose mean mg mb 137 news [] (fun v news' => (∀ p ∈ news, p ∈ news') ∧ ∃ l as, v = .ref l ∧ (l, listOf (as.map Value.ref).toArray 0) ∈ news' ∧ TupsAt news' (spoilsM.map spoP) as) := by
  intro dp un gd cn cs a ccd cl outer A₀ base h₀ L m s Q E B F X N T hk hd hu hret
  refine wpAny_call ?_
  k_dflt cell_enter
  rename Fr _ _ _ _ => F0
  rename News _ _ _ _ => N0
  refine' return_menu (Pss := spoilsM.map spoP) ?F1 ?N1 ?hes1 ?hlen1 ?r1
  case F1 => exact F0
  case N1 => exact N0
  case hes1 => walk_at "MENU"
  case hlen1 => exact Nat.le_of_ble_eq_true rfl
  intro l1 as1 new1 h1 tk1 F1 N1 T1
  clear F0 N0
  k_steps
  all_goals (
    refine hret _ ((l1, listOf (as1.map Value.ref).toArray 0) :: (new1 ++ news)) _ _ (by k_asm) (by k_asm) ⟨fun p hp => by simp [hp], l1, as1, rfl, List.Mem.head _, T1.mono fun p hp => by simp [hp]⟩)
end Mine
end

section
open PySem PySem.W PyProof.Rows
namespace Mine
open PySem.Calls
local macro_rules | `(tactic| k_mem) => `(tactic| assumption)

set_option maxHeartbeats 2000000 in
theorem spoiled_ct0 (w : World) {loose mean mg mb} {news : List (Addr × Obj)} (l sp a0 a1 a2 a3 a4 a5 : Addr) (n : Nat) (tp : Tok) (vt vn : Value)
    (hl : (l, listOf [Value.ref a0, .ref a1, .ref a2, .ref a3, .ref a4, .ref a5].toArray n) ∈ news) (hs : (sp, tupOf [.int 0 tp, vt, vn]) ∈ news) :
    LeafCt w loose mean mg mb 161 news [.ref l, .ref sp] (fun v news' => (∀ p ∈ news, p ∈ news') ∧ ∃ l' a' n', v = .ref l' ∧ (l', listOf [Value.ref a', .ref a1, .ref a2, .ref a3, .ref a4, .ref a5].toArray n') ∈ news' ∧ (a', tupOf [vt, vn]) ∈ news') := by
  intro dp un gd cn cs a ccd cl outer A₀ base h₀ L m s Q E B F X N T hk hd hu hret
  refine wpAny_call ?_
  k_dflt cell_enter
  k_steps
  all_goals (
    refine' hret _ _ _ _ ?k1 ?k2 ⟨?sub, _, _, _, rfl, ?m, ?t⟩
    case k1 => k_asm
    case k2 => k_asm
    case sub => intro p hp; simp only [List.mem_cons]; simp only [hp, or_true]
    case m => exact List.Mem.head _
    case t => simp)

set_option maxHeartbeats 2000000 in
theorem spoiled_ct1 (w : World) {loose mean mg mb} {news : List (Addr × Obj)} (l sp a0 a1 a2 a3 a4 a5 : Addr) (n : Nat) (tp : Tok) (vt vn : Value)
    (hl : (l, listOf [Value.ref a0, .ref a1, .ref a2, .ref a3, .ref a4, .ref a5].toArray n) ∈ news) (hs : (sp, tupOf [.int 1 tp, vt, vn]) ∈ news) :
    LeafCt w loose mean mg mb 161 news [.ref l, .ref sp] (fun v news' => (∀ p ∈ news, p ∈ news') ∧ ∃ l' a' n', v = .ref l' ∧ (l', listOf [Value.ref a0, .ref a', .ref a2, .ref a3, .ref a4, .ref a5].toArray n') ∈ news' ∧ (a', tupOf [vt, vn]) ∈ news') := by
  intro dp un gd cn cs a ccd cl outer A₀ base h₀ L m s Q E B F X N T hk hd hu hret
  refine wpAny_call ?_
  k_dflt cell_enter
  k_steps
  all_goals (
    refine' hret _ _ _ _ ?k1 ?k2 ⟨?sub, _, _, _, rfl, ?m, ?t⟩
    case k1 => k_asm
    case k2 => k_asm
    case sub => intro p hp; simp only [List.mem_cons]; simp only [hp, or_true]
    case m => exact List.Mem.head _
    case t => simp)

set_option maxHeartbeats 2000000 in
theorem spoiled_ct2 (w : World) {loose mean mg mb} {news : List (Addr × Obj)} (l sp a0 a1 a2 a3 a4 a5 : Addr) (n : Nat) (tp : Tok) (vt vn : Value)
    (hl : (l, listOf [Value.ref a0, .ref a1, .ref a2, .ref a3, .ref a4, .ref a5].toArray n) ∈ news) (hs : (sp, tupOf [.int 2 tp, vt, vn]) ∈ news) :
    LeafCt w loose mean mg mb 161 news [.ref l, .ref sp] (fun v news' => (∀ p ∈ news, p ∈ news') ∧ ∃ l' a' n', v = .ref l' ∧ (l', listOf [Value.ref a0, .ref a1, .ref a', .ref a3, .ref a4, .ref a5].toArray n') ∈ news' ∧ (a', tupOf [vt, vn]) ∈ news') := by
  intro dp un gd cn cs a ccd cl outer A₀ base h₀ L m s Q E B F X N T hk hd hu hret
  refine wpAny_call ?_
  k_dflt cell_enter
  k_steps
  all_goals (
    refine' hret _ _ _ _ ?k1 ?k2 ⟨?sub, _, _, _, rfl, ?m, ?t⟩
    case k1 => k_asm
    case k2 => k_asm
    case sub => intro p hp; simp only [List.mem_cons]; simp only [hp, or_true]
    case m => exact List.Mem.head _
    case t => simp)

set_option maxHeartbeats 2000000 in
theorem spoiled_ct3 (w : World) {loose mean mg mb} {news : List (Addr × Obj)} (l sp a0 a1 a2 a3 a4 a5 : Addr) (n : Nat) (tp : Tok) (vt vn : Value)
    (hl : (l, listOf [Value.ref a0, .ref a1, .ref a2, .ref a3, .ref a4, .ref a5].toArray n) ∈ news) (hs : (sp, tupOf [.int 3 tp, vt, vn]) ∈ news) :
    LeafCt w loose mean mg mb 161 news [.ref l, .ref sp] (fun v news' => (∀ p ∈ news, p ∈ news') ∧ ∃ l' a' n', v = .ref l' ∧ (l', listOf [Value.ref a0, .ref a1, .ref a2, .ref a', .ref a4, .ref a5].toArray n') ∈ news' ∧ (a', tupOf [vt, vn]) ∈ news') := by
  intro dp un gd cn cs a ccd cl outer A₀ base h₀ L m s Q E B F X N T hk hd hu hret
  refine wpAny_call ?_
  k_dflt cell_enter
  k_steps
  all_goals (
    refine' hret _ _ _ _ ?k1 ?k2 ⟨?sub, _, _, _, rfl, ?m, ?t⟩
    case k1 => k_asm
    case k2 => k_asm
    case sub => intro p hp; simp only [List.mem_cons]; simp only [hp, or_true]
    case m => exact List.Mem.head _
    case t => simp)

set_option maxHeartbeats 2000000 in
theorem spoiled_ct4 (w : World) {loose mean mg mb} {news : List (Addr × Obj)} (l sp a0 a1 a2 a3 a4 a5 : Addr) (n : Nat) (tp : Tok) (vt vn : Value)
    (hl : (l, listOf [Value.ref a0, .ref a1, .ref a2, .ref a3, .ref a4, .ref a5].toArray n) ∈ news) (hs : (sp, tupOf [.int 4 tp, vt, vn]) ∈ news) :
    LeafCt w loose mean mg mb 161 news [.ref l, .ref sp] (fun v news' => (∀ p ∈ news, p ∈ news') ∧ ∃ l' a' n', v = .ref l' ∧ (l', listOf [Value.ref a0, .ref a1, .ref a2, .ref a3, .ref a', .ref a5].toArray n') ∈ news' ∧ (a', tupOf [vt, vn]) ∈ news') := by
  intro dp un gd cn cs a ccd cl outer A₀ base h₀ L m s Q E B F X N T hk hd hu hret
  refine wpAny_call ?_
  k_dflt cell_enter
  k_steps
  all_goals (
    refine' hret _ _ _ _ ?k1 ?k2 ⟨?sub, _, _, _, rfl, ?m, ?t⟩
    case k1 => k_asm
    case k2 => k_asm
    case sub => intro p hp; simp only [List.mem_cons]; simp only [hp, or_true]
    case m => exact List.Mem.head _
    case t => simp)

set_option maxHeartbeats 2000000 in
theorem spoiled_ct5 (w : World) {loose mean mg mb} {news : List (Addr × Obj)} (l sp a0 a1 a2 a3 a4 a5 : Addr) (n : Nat) (tp : Tok) (vt vn : Value)
    (hl : (l, listOf [Value.ref a0, .ref a1, .ref a2, .ref a3, .ref a4, .ref a5].toArray n) ∈ news) (hs : (sp, tupOf [.int 5 tp, vt, vn]) ∈ news) :
    LeafCt w loose mean mg mb 161 news [.ref l, .ref sp] (fun v news' => (∀ p ∈ news, p ∈ news') ∧ ∃ l' a' n', v = .ref l' ∧ (l', listOf [Value.ref a0, .ref a1, .ref a2, .ref a3, .ref a4, .ref a'].toArray n') ∈ news' ∧ (a', tupOf [vt, vn]) ∈ news') := by
  intro dp un gd cn cs a ccd cl outer A₀ base h₀ L m s Q E B F X N T hk hd hu hret
  refine wpAny_call ?_
  k_dflt cell_enter
  k_steps
  all_goals (
    refine' hret _ _ _ _ ?k1 ?k2 ⟨?sub, _, _, _, rfl, ?m, ?t⟩
    case k1 => k_asm
    case k2 => k_asm
    case sub => intro p hp; simp only [List.mem_cons]; simp only [hp, or_true]
    case m => exact List.Mem.head _
    case t => simp)

end Mine
end

section
open PySem PySem.W PyProof.Rows
namespace Mine
open PySem.Calls

section
variable {prog : Program} {w : World} {A : Around} {E : Value → Shared → Prop} {s : Shared} {h₀ : Heap} {L : Addr} {m : PySem.Str → Option Value} {env : Env} {x : PySem.Str} {scope : Scope} {cl : List (PySem.Str × Addr)}

/-- [x[j] for x in xs] over a list of tuples: the turns from i on -/
theorem comp_rest {j : Nat} {k1 : Nat} {p1 p2 p3 : Pos} {S : List (Addr × Obj) → Prop} {as : List Addr} {Fin : List Value → List (Addr × Obj) → Prop} {news : List (Addr × Obj)}
    (hj : j < 1000) (hS : S news) (hxd : (x == ("__debug__" : PySem.Str)) = false) (hk : scope.kind = .function) (hx : scope.names.lookup x = some .local)
    (hlet : ∀ o r, letTemporaryGo (.Name x p1) o r = pure ()) :
    ∀ (n i : Nat) (vals : List Value) (ys : List Value), i + n = as.length → vals.length = n →
      (∀ q a v, as[i + q]? = some a → vals[q]? = some v → ∃ vs, (a, tupOf vs) ∈ news ∧ vs[j]? = some v ∧ vs.length ≤ 1000) → Fin (ys ++ vals) news →
      LCg.CompRest prog w A h₀ L m env (.Subscript (.Name x p1) (.Constant (.int (j : Int)) k1 p2) p3) x scope cl s S (fun i v => (as.map Value.ref).toArray[i]? = some v) Fin n i ys news
  | 0, i, vals, ys, hi, hv, ht, hF => by
    obtain rfl : vals = [] := List.length_eq_zero_iff.mp hv
    rw [List.append_nil] at hF
    exact LCg.CompRest.zero hF
  | n + 1, i, [], ys, hi, hv, ht, hF => by simp at hv
  | n + 1, i, v :: vals, ys, hi, hv, ht, hF => by
    refine LCg.CompRest.succ fun xv I oI C oC D m₂ h tk E' hP hC hm F N hoff hne => ?_
    have hlt : i < as.length := by omega
    have hxv : xv = .ref as[i] := by
      have : (as.map Value.ref).toArray[i]? = some (.ref as[i]) := by simp [List.getElem?_eq_getElem hlt]
      rw [this] at hP
      exact (Option.some.inj hP).symm
    subst hxv
    obtain ⟨vs, hmem, hvs, hlen⟩ := ht 0 as[i] v (by simp [List.getElem?_eq_getElem hlt]) rfl
    have hjl : j < vs.length := (List.getElem?_eq_some_iff.mp hvs).1
    refine Subscript_ ?_
    refine LCgL.ld_own N (List.Mem.tail _ (List.Mem.head _)) hC hm ?_ (by simpa [compEnvC, relabel] using hk) (lookup_relabel_local hx) hxd
    refine wpAny_Constant_int ?_
    refine item_tupleT (l := vs) (j := j) (x := v) (News.isTup N (List.Mem.tail _ (List.Mem.tail _ (List.Mem.tail _ hmem)))) (by omega) (by omega) (seqIndex_of (by omega) (by exact_mod_cast hjl)) hvs ?_ ?_
    · refine LCg.CompEnd.intro F N news (fun p hp => hp) hoff hS ?_
      refine comp_rest hj hS hxd hk hx hlet n (i + 1) vals (ys ++ [v]) (by omega) (by simpa using hv) (fun q a v' ha hv' => ht (q + 1) a v' (by rw [← ha]; congr 1; omega) (by simpa using hv')) (by rw [List.append_assoc]; exact hF)
    · with_unfolding_all rfl
end
end Mine
namespace Mine
theorem ht_six {news : List (Addr × Obj)} {a0 a1 a2 a3 a4 a5 : Addr} {l0 l1 l2 l3 l4 l5 : List Value} {j : Nat} {v0 v1 v2 v3 v4 v5 : Value}
    (p0 : (a0, tupOf l0) ∈ news) (p1 : (a1, tupOf l1) ∈ news) (p2 : (a2, tupOf l2) ∈ news) (p3 : (a3, tupOf l3) ∈ news) (p4 : (a4, tupOf l4) ∈ news) (p5 : (a5, tupOf l5) ∈ news)
    (h0 : l0[j]? = some v0 ∧ l0.length ≤ 1000) (h1 : l1[j]? = some v1 ∧ l1.length ≤ 1000) (h2 : l2[j]? = some v2 ∧ l2.length ≤ 1000) (h3 : l3[j]? = some v3 ∧ l3.length ≤ 1000) (h4 : l4[j]? = some v4 ∧ l4.length ≤ 1000) (h5 : l5[j]? = some v5 ∧ l5.length ≤ 1000) :
    ∀ q a v, [a0, a1, a2, a3, a4, a5][0 + q]? = some a → [v0, v1, v2, v3, v4, v5][q]? = some v → ∃ vs, (a, tupOf vs) ∈ news ∧ vs[j]? = some v ∧ vs.length ≤ 1000 := by
  intro q a v ha hv
  rw [Nat.zero_add] at ha
  rcases q with _ | _ | _ | _ | _ | _ | q
  · cases ha; cases hv; exact ⟨_, p0, h0⟩
  · cases ha; cases hv; exact ⟨_, p1, h1⟩
  · cases ha; cases hv; exact ⟨_, p2, h2⟩
  · cases ha; cases hv; exact ⟨_, p3, h3⟩
  · cases ha; cases hv; exact ⟨_, p4, h4⟩
  · cases ha; cases hv; exact ⟨_, p5, h5⟩
  · simp at ha
end Mine
end

section
open PySem PySem.W PyProof.Rows
namespace Mine
open PySem.Calls
open Sem (wp)
theorem mro_date : mroOf (.type "datetime.date") = pure [.type "datetime.date", .type "object"] := by rw [mroOf_type]; kernel_rfl
theorem lookup_date_new : typeLookup (.type "datetime.date") "__new__" = pure (some (.builtin "datetime.date.__new__")) := by rw [typeLookup_type, builtinLookup_eq_fast]; kernel_rfl
theorem sub_date : isSubtype (.type "datetime.date") (.type "datetime.date") = pure true := by rw [isSubtype_type]; kernel_rfl
theorem sub_dt : isSubtype (.type "datetime.date") (.type "datetime.datetime") = pure false := by rw [isSubtype_type]; kernel_rfl
theorem slot_date_init : Slot "datetime.date" "__init__" "object.__init__" :=
  .of (owner := "object") (n := "__init__") (by rw [typeLookup_type, builtinLookup_eq_fast]; kernel_rfl) (by decide +kernel) (by decide +kernel) (by decide +kernel)
    (by first | exact .inl (by decide +kernel) | exact .inr (by decide +kernel)) (by rw [isSubtype_type]; kernel_rfl)
theorem called_date : TypeCalled "datetime.date" "datetime.date.__new__" "object.__init__" :=
  ⟨by decide +kernel, by decide +kernel, ⟨_, _, mro_date⟩, madeBy_type mro_date lookup_date_new (by decide +kernel), by decide +kernel, sub_date, slot_date_init⟩
theorem typeCall_date (a b c : Value) : checkTypeCall "datetime.date" ⟨[a, b, c], []⟩ = pure () := by kernel_rfl
theorem newCall_date (a b c : Value) : checkBuiltinCall "datetime.date.__new__" ⟨[.type "datetime.date", a, b, c], []⟩ = pure () := by kernel_rfl
theorem entry_date_new : entryFor table "datetime.date.__new__" = some Builtin.«datetime.date.__new__» := entryFor_of_tree (by kernel_rfl)
theorem entry_date_ord : entryFor table "datetime.date.toordinal" = some Builtin.«datetime.date.toordinal» := entryFor_of_tree (by kernel_rfl)
theorem slot_date_ord : Slot "datetime.date" "toordinal" "datetime.date.toordinal" :=
  .of (owner := "datetime.date") (n := "toordinal") (by rw [typeLookup_type, builtinLookup_eq_fast]; kernel_rfl) (by decide +kernel) (by decide +kernel) (by decide +kernel)
    (by first | exact .inl (by decide +kernel) | exact .inr (by decide +kernel)) (by rw [isSubtype_type]; kernel_rfl)
theorem type_date_ord : typeOf (.builtin "datetime.date.toordinal") = pure (.type "method_descriptor") := by show builtinType _ = _; rw [builtinType_eq_fast]; kernel_rfl
theorem plain_date : PlainAttrs "datetime.date" :=
  ⟨⟨"object.__getattribute__", by rw [typeLookup_type, builtinLookup_eq_fast]; kernel_rfl, by decide +kernel⟩, by rw [typeLookup_type, builtinLookup_eq_fast]; kernel_rfl⟩
theorem args_date_ord (a : Value) : argsOk "datetime.date.toordinal" ⟨[a], []⟩ := by unfold argsOk; kernel_rfl
theorem args_init4 (a b c d : Value) : argsOk "object.__init__" ⟨[a, b, c, d], []⟩ := by unfold argsOk; kernel_rfl
theorem newNe_date : (some "datetime.date.__new__" != some "object.__new__") = true := by decide +kernel

abbrev dateObj (y m d : Int) : Obj := { cls := .type "datetime.date", data := .fields #[rawInt y, rawInt m, rawInt d] }
theorem dim_pos (y m : Int) (hm : 1 ≤ m ∧ m ≤ 12) : 1 ≤ Builtin._datetime.daysInMonth y m := by
  unfold Builtin._datetime.daysInMonth
  split
  · omega
  · obtain ⟨k, e⟩ := Int.eq_ofNat_of_zero_le (show 0 ≤ m - 1 by omega)
    have hk : k < 12 := by omega
    rw [e]
    exact (by decide : ∀ k : Nat, k < 12 → (1 : Int) ≤ (([31, 28, 31, 30, 31, 30, 31, 31, 30, 31, 30, 31] : List Int)[((k : Int)).toNat]?).getD 0) k hk
set_option maxHeartbeats 4000000 in
theorem date_new (y m : Int) (ty tm td : Tok) (hy : 1970 ≤ y ∧ y ≤ 9999) (hm : 1 ≤ m ∧ m ≤ 12) :
    Meets (Builtin.«datetime.date.__new__» ⟨[.type "datetime.date", .int y ty, .int m tm, .int 1 td], []⟩) (fun _ R s => R (.ok (.ret (.ref s.heap.objs.size))) { s with heap := s.heap.push (dateObj y m 1) }) :=
  .of_wp fun prog w A R s h => by
    obtain ⟨hp, g, d, tk, os⟩ := s
    have f1 := sub_date
    have f2 := sub_dt
    have a1 : y < 9223372036854775808 := by omega
    have a2 : -9223372036854775808 ≤ y := by omega
    have a3 : y < 2147483648 := by omega
    have a4 : -2147483648 ≤ y := by omega
    have b1 : m < 9223372036854775808 := by omega
    have b2 : -9223372036854775808 ≤ m := by omega
    have b3 : m < 2147483648 := by omega
    have b4 : -2147483648 ≤ m := by omega
    have c1 : 1 ≤ y := by omega
    have c2 : y ≤ 9999 := by omega
    have c3 : 1 ≤ m := by omega
    have c4 : m ≤ 12 := by omega
    have c5 := dim_pos y m hm
    clear hy hm
    wp_walk
    exact ⟨_, rfl, h⟩
theorem date_ord (a : Addr) (y m : Int) : Meets (Builtin.«datetime.date.toordinal» ⟨[.ref a], []⟩) (fun _ R s => s.heap.get? a = some (dateObj y m 1) ∧ R (.ok (.ret (.int (Builtin._datetime.toOrdinal y m 1) s.toks))) { s with toks := s.toks + 1 }) :=
  .of_wp fun prog w A R s h => by
    obtain ⟨hp, g, d, tk, os⟩ := s
    obtain ⟨hl, h⟩ := h
    have f1 := sub_date
    wp_walk
    exact ⟨_, rfl, h⟩
section
variable {prog : Program} {w : World} {A : Around} {E : Value → Shared → Prop} {s : Shared}
theorem call_date {y m : Int} {ty tm td : Tok} {Q : Value → Shared → Prop} (hy : 1970 ≤ y ∧ y ≤ 9999) (hm : 1 ≤ m ∧ m ≤ 12)
    (h : Q (.ref s.heap.objs.size) { s with heap := s.heap.push (dateObj y m 1) }) : wpAny (model prog w) A (call (.type "datetime.date") [.int y ty, .int m tm, .int 1 td]) Q E s :=
  callType_new called_date newNe_date (typeCall_date _ _ _) (newCall_date _ _ _) (fun obj => args_init4 obj _ _ _) entry_date_new (date_new y m ty tm td hy hm)
    ⟨⟨_, Heap.get?_push_size _ rfl, rfl⟩, h⟩
theorem method_ord {a : Addr} {y m : Int} {pl : Sem Bool} {Q : Value × List Value → Shared → Prop} (ho : s.heap.get? a = some (dateObj y m 1)) (h : Q (.builtin "datetime.date.toordinal", [.ref a]) s) :
    wpAny (model prog w) A (getMethod (.ref a) "toordinal" pl) Q E s :=
  getMethod_builtin ⟨_, ho, rfl⟩ plain_date slot_date_ord type_date_ord (fun b e => by cases e; exact ⟨_, ho, rfl⟩) h
theorem call_ord {a : Addr} {y m : Int} {Q : Value → Shared → Prop} (ho : s.heap.get? a = some (dateObj y m 1)) (h : Q (.int (Builtin._datetime.toOrdinal y m 1) s.toks) { s with toks := s.toks + 1 }) :
    wpAny (model prog w) A (call (.builtin "datetime.date.toordinal") [.ref a]) Q E s :=
  call_meets slot_date_ord ⟨_, ho, rfl⟩ entry_date_ord (args_date_ord _) (date_ord a y m) ⟨ho, h⟩
end
end Mine
end

section
open PySem PySem.W PyProof.Rows
namespace Mine
open PySem.Calls
section
open Sem (wp)
theorem range_has (r : Addr) (a b x : Int) (t u v tx : Tok) :
    Meets (Builtin.«range.__contains__» ⟨[.ref r, .int x tx], []⟩) (fun _ R s => s.heap.get? r = some { cls := .type "range", dict := none, data := .fields #[.int a t, .int b u, .int 1 v], slots := #[] } ∧ R (.ok (.ret (.bool (Builtin.Range.rangePlace? a b 1 x).isSome))) s) :=
  .of_wp fun prog w A R s h => by obtain ⟨hp, g, d, tk, os⟩ := s; obtain ⟨hl, h⟩ := h; wp_walk; exact ⟨_, rfl, h⟩
theorem place_is (a b x : Int) : (Builtin.Range.rangePlace? a b 1 x).isSome = (decide (a ≤ x) && decide (x < b)) := by
  unfold Builtin.Range.rangePlace?
  simp only [show (1 : Int) > 0 from by decide, if_true, Int.emod_one, beq_self_eq_true, Bool.and_true]
  split <;> rename_i h
  · simpa using h.symm
  · simpa using h
variable {prog : Program} {w : World} {A : Around} {E : Value → Shared → Prop} {s : Shared}
theorem notin_range {r : Addr} {a b x : Int} {t u v tx : Tok} {Q : Value → Shared → Prop} (hr : IsRange s.heap r a b 1 t u v) (h : Q (.bool (!(decide (a ≤ x) && decide (x < b)))) s) :
    wpAny (model prog w) A (compareOp .NotIn (.int x tx) (.ref r)) Q E s :=
  PySem.SeqRoads2.notIn_meets ⟨_, hr, rfl⟩ F.slot_range_contains F.entry_range_contains (F.args_range_contains_2 _ _) (range_has r a b x t u v tx) ⟨hr, _, rfl, by rw [place_is]; exact h⟩
theorem notin_rangeC {r : Addr} {a b x : Int} {t u v tx : Tok} {Q : Value → Shared → Prop} (hr : IsRange s.heap r a b 1 t u v) (h1 : a ≤ x → x < b → Q (.bool false) s) (h2 : (x < a ∨ b ≤ x) → Q (.bool true) s) :
    wpAny (model prog w) A (compareOp .NotIn (.int x tx) (.ref r)) Q E s := by
  refine notin_range hr ?_
  by_cases ha : a ≤ x
  · by_cases hb : x < b
    · rw [decide_eq_true ha, decide_eq_true hb]; exact h1 ha hb
    · rw [decide_eq_true ha, decide_eq_false hb]; exact h2 (.inr (Int.not_lt.mp hb))
  · rw [decide_eq_false ha]; exact h2 (.inl (Int.not_le.mp ha))
end
end Mine
end

section
open PySem PySem.W PyProof.Rows
namespace Mine
open PySem.Calls
section
variable {prog : Program} {w : World} {A : Around} {E : Value → Shared → Prop} {s : Shared} {h₀ : Heap} {L : Addr} {m : PySem.Str → Option Value} {news : List (Addr × Obj)}
theorem sliceApplied_6 {sl : Addr} {u : Tok} {Q : Int × Int × Nat → Shared → Prop} (hs : s.heap.IsSliceOf sl .none (.int 6 u) .none) (h : Q (0, 1, 6) s) :
    wpAny (model prog w) A (Builtin.Slice.sliceApplied (.ref sl) (pure (7 : Int))) Q E s := by
  obtain ⟨os, hos, hcs, hds⟩ := id hs
  unfold Builtin.Slice.sliceApplied Builtin.Slice.sliceFields
  refine wpAny_bind (wpAny_bind (wpAny_field hos hds (x := .none) rfl (wpAny_bind (wpAny_field hos hds (x := .int 6 u) rfl (wpAny_bind (wpAny_field hos hds (x := .none) rfl (wpAny_pure ?_)))))))
  refine wpAny_bind (slicePart_none ?_)
  show wpAny _ _ (if ((1 : Int) == 0) = true then _ else _) _ _ s
  rw [if_neg (by decide)]
  refine wpAny_bind (slicePart_none (wpAny_bind (slicePart_int (wpAny_bind (wpAny_pure ?_)))))
  exact wpAny_pure h
theorem getItem_tuple_6 {t sl : Addr} {a0 a1 a2 a3 a4 a5 a6 : Value} {u : Tok} {Q : Value → Shared → Prop} (ht : IsTup s.heap t #[a0, a1, a2, a3, a4, a5, a6]) (hs : s.heap.IsSliceOf sl .none (.int 6 u) .none)
    (h : Q (.ref s.heap.objs.size) { s with heap := s.heap.push (tupOf [a0, a1, a2, a3, a4, a5]) }) : wpAny (model prog w) A (getItem (.ref t) (.ref sl)) Q E s := by
  have hdrop : sizeOk (.seq [a0, a1, a2, a3, a4, a5].toArray) := Nat.le_of_ble_eq_true rfl
  obtain ⟨os, hos, hcs, hds⟩ := id hs
  have hTs : s.TypeIs (.ref sl) "slice" := ⟨os, hos, hcs⟩
  unfold getItem
  try with_reducible refine wpAny_holding ?_
  first | refine wpAny_bind (wpAny_pure ?_) | skip
  refine wpAny_bind (wpAny_sequenceKey ht.typeIs (by decide) ?_)
  refine wpAny_bind (wpAny_callSpecial?_slot (name := Str.ofString "__getitem__") ht.typeIs slot_tuple_getitem
    (wpAny_call_entry slot_tuple_getitem ht.typeIs entry_tuple_getitem ?_ (args_tuple_getitem _ _)))
  show wpAny _ _ (Builtin.Tuple.tupleItemsOf (.ref t) >>= _) _ _ s
  refine wpAny_bind (tupleItemsOf_ ht ?_)
  refine wpAny_bind (wpAny_typeOf hTs ?_)
  rw [if_pos (by decide)]
  refine wpAny_bind (sliceApplied_6 hs ?_)
  first
    | exact wpAny_bind (m := Builtin.Tuple.tupleExact _) (wpAny_newObj_type (wpAny_pure ⟨_, rfl, wpAny_pure h⟩) hdrop)
    | exact wpAny_bind (m := Builtin.Tuple.tupleExact _) (wpAny_newObj_type (wpAny_bind (wpAny_pure (wpAny_pure ⟨_, rfl, wpAny_pure h⟩))) hdrop)
    | exact wpAny_bind (wpAny_bind (m := Builtin.Tuple.tupleExact _) (wpAny_newObj_type (wpAny_pure (wpAny_pure ⟨_, rfl, wpAny_pure h⟩)) hdrop))
    | exact wpAny_bind (wpAny_bind (m := Builtin.Tuple.tupleExact _) (wpAny_newObj_type (wpAny_pure ⟨_, rfl, wpAny_pure h⟩) hdrop))
theorem slice_tuple_6 {value slice : Expr} {t : Addr} {a0 a1 a2 a3 a4 a5 a6 : Value} {u : Tok} {ops : List Value} {Q : Value → Shared → Prop}
    (F : Fr h₀ L s.heap m) (N : News h₀ L s.heap news) (hm : (t, tupOf [a0, a1, a2, a3, a4, a5, a6]) ∈ news)
    (h : ∀ D h', Fr h₀ L h' m → News h₀ L h' ((D, tupOf [a0, a1, a2, a3, a4, a5]) :: news) → Q (.ref D) { s with heap := h' })
    (hs : subscripted slice false (.ref t) (.ref s.heap.objs.size) = operate ops (getItem (.ref t) (.ref s.heap.objs.size)))
    (hg : ∀ r, letTemporaryGo value (.ref t) r = pure ()) :
    wpAny (model prog w) A (subscriptTail value slice (.ref t) (.ref s.heap.objs.size)) Q E { s with heap := s.heap.push { cls := .type "slice", data := .fields #[.none, .int 6 u, .none] } } := by
  have ht : IsTup s.heap t #[a0, a1, a2, a3, a4, a5, a6] := News.isTup N hm
  have ht' : IsTup (s.heap.push { cls := .type "slice", data := .fields #[.none, .int 6 u, .none] }) t #[a0, a1, a2, a3, a4, a5, a6] := ht.keeps fun _ _ e => Heap.get?_push_of_some _ e
  refine subscriptTail_ops (s := { s with heap := s.heap.push { cls := .type "slice", data := .fields #[.none, .int 6 u, .none] } }) ht'.typeIs slot_tuple_getitem.lookup
    (getItem_tuple_6 ht' (Heap.IsSliceOf.new ..) ?_) hs hg
  have N1 := News.push (F.push { cls := .type "slice", data := .fields #[.none, .int 6 u, .none] }) (N.grown fun _ _ e => Heap.get?_push_of_some _ e) (tupOf [a0, a1, a2, a3, a4, a5])
  rw [Heap.size_push] at N1
  show Q (.ref (s.heap.push _).objs.size) _
  rw [Heap.size_push]
  exact h _ _ ((F.push _).push _) N1
end
end Mine
end

section
open PySem PySem.W PyProof.Rows
namespace Mine
open PySem.Calls

theorem use_first {w : World} {loose mean mg mb} {news : List (Addr × Obj)} {y mo : Int} {t u : Tok} {dp un : Nat} {gd : Option (List Code)} {cn : PySem.Str} {cs : Scope} {a : Addr} {ccd : Value} {cl : List (PySem.Str × Addr)} {outer : List Env} {A₀ : Around} {base h₀ : Heap} {L : Addr} {m : PySem.Str → Option Value} {s : Shared} {Q E : Value → Shared → Prop}
    (B : Below A₀ base outer h₀) (F : Fr h₀ L s.heap m) (X : (MineTop.hd.heap_39 w.params).In h₀) (N : News h₀ L s.heap news) (T : Top MineTop.hd.view_39 loose mean mg mb h₀) (hk : cs.kind = .function)
    (hy : y ∈ yearsL) (hm : 1 ≤ mo ∧ mo ≤ 12) (hd : dp + 4 < recursionLimit) (hu : un + 20 < cLine)
    (hret : ∀ t h' tk', Fr h₀ L h' m → News h₀ L h' news → Q (.int (firstZ y mo) t) { s with heap := h', toks := tk' }) :
    wpAny (model PySem.Challenge.pw_in0098_01 w) (ktrTop dp un gd cn cs L a ccd cl outer) (call (.ref 123) [.int y t, .int mo u]) Q E s :=
  first_ct w y mo t u hy hm dp un gd cn cs a ccd cl outer A₀ base h₀ L m s Q E B F X N T hk hd hu fun v news' h' tk' F' N' ⟨e, t', ev⟩ => by subst e ev; exact hret t' h' tk' F' N'
local macro_rules | `(tactic| walk_at "call ref") => `(tactic| (k_here; (with_reducible show wpAny _ _ (call (Value.ref 123) [Value.int _ _, Value.int _ _]) _ _ _); k_dflt (refine' use_first ?zB ?zF ?zX ?zN ?zT ?hk ?hy ?hm ?hd ?hu ?_); (case zB => k_asm); (case zF => k_asm); (case zX => k_asm); (case zN => k_asm); (case zT => k_asm); (case hk => rfl); (case hy => assumption); (case hm => omega); (case hd => ktr_room); (case hu => ktr_units); intro t' h' tk' F' N'; (try k_sweep)))
theorem LeafH.drop {w : World} {loose mean mg mb} {f : Addr} {n n' : List (Addr × Obj)} {vs : List Value} {R : Value → Heap → Prop} (h : LeafH w loose mean mg mb f n vs R) (hs : ∀ p ∈ n, p ∈ n') : LeafH w loose mean mg mb f n' vs R := by
  intro dp un gd cn cs a ccd cl outer A₀ base h₀ L m s Q E B F X N T hk hd hu hret
  exact h dp un gd cn cs a ccd cl outer A₀ base h₀ L m s Q E B F X (fun p hp => N p (hs p hp)) T hk hd hu hret
theorem firstZ_bound (y mo : Int) (hy : y ∈ yearsL) (hm : 1 ≤ mo ∧ mo ≤ 12) : 0 ≤ firstZ y mo ∧ firstZ y mo ≤ 10000000 := by
  obtain ⟨k, e⟩ := Int.eq_ofNat_of_zero_le (show 0 ≤ mo - 1 by omega)
  have hk : k < 12 := by omega
  have e' : mo = (k : Int) + 1 := by omega
  subst e'
  exact (by decide : ∀ y ∈ yearsL, ∀ k : Nat, k < 12 → 0 ≤ firstZ y ((k : Int) + 1) ∧ firstZ y ((k : Int) + 1) ≤ 10000000) y hy k hk
local macro_rules | `(tactic| walk_at "ENTER") => `(tactic| (refine' leaf_enter ?k1 ?k2 ?k3 ?k4 ?k5 ?kA ?kF ?kK ?k6 ?k7 ?k8 ?k9 ?kB ?_ ?c2 ?c3 ?c4 ?c5; (case kA => exact rfl); (case kF => exact rfl); (case kK => assumption); (case k1 => k_asm); (case k2 => k_asm); (case k3 => k_asm); (case k4 => k_asm); (case k5 => k_asm); (case k6 => k_is); (case k7 => k_is); (case k8 => (simp only [depth_under_make, depth_under_kw, depth_in1, depth_deeper, depth_caller]; omega)); (case k9 => exact BindsTo.of_eq rfl); (case c5 => decide); (case kB => exact locs rfl); (case c2 => exact rfl); (case c3 => exact rfl); (case c4 => exact rfl); intro g' L' h' F' N' B' X' T' HK; (try dsimp only); (try k_lift B'); (try k_fold)))

local macro_rules | `(tactic| walk_at "compareOp NotIn int ref") => `(tactic| (k_here; (with_reducible show wpAny _ _ (compareOp CmpOp.NotIn (Value.int _ _) (Value.ref _)) _ _ _); k_dflt (refine' notin_rangeC ?hr ?_ ?_; (case hr => assumption)); (all_goals intros)))
def dueZ (d mo y h mi se : Int) : Int := 86400 * (firstZ y mo + d - 1) + 3600 * h + 60 * mi + se
def inR (d y h mi se : Int) : Bool := decide (1970 ≤ y) && decide (1 ≤ d) && decide (d < 32) && decide (0 ≤ h) && decide (h < 25) && decide (0 ≤ mi) && decide (mi < 60) && decide (0 ≤ se) && decide (se < 62)
theorem inR_t {d y h mi se : Int} (a : 1970 ≤ y) (b : 1 ≤ d) (c : d < 32) (e : 0 ≤ h) (f : h < 25) (g : 0 ≤ mi) (i : mi < 60) (j : 0 ≤ se) (k : se < 62) : inR d y h mi se = true := by
  simp [inR, a, b, c, e, f, g, i, j, k]
theorem inR_f {d y h mi se : Int} (hn : ¬ (1970 ≤ y ∧ 1 ≤ d ∧ d < 32 ∧ 0 ≤ h ∧ h < 25 ∧ 0 ≤ mi ∧ mi < 60 ∧ 0 ≤ se ∧ se < 62)) : inR d y h mi se = false := by
  cases e : inR d y h mi se with
  | false => rfl
  | true => exact absurd (by simpa [inR, and_assoc] using e) hn
def dueI (d mo y h mi se : Int) (v : Value) : Prop := (inR d y h mi se = true → ∃ t, v = .int (dueZ d mo y h mi se) t) ∧ (inR d y h mi se = false → v = .none)
theorem dueI_t {d mo y h mi se : Int} {t : Tok} (e : inR d y h mi se = true) : dueI d mo y h mi se (.int (dueZ d mo y h mi se) t) := ⟨fun _ => ⟨t, rfl⟩, fun f => by rw [e] at f; cases f⟩
theorem dueI_f {d mo y h mi se : Int} (e : inR d y h mi se = false) : dueI d mo y h mi se .none := ⟨fun f => (by rw [e] at f; cases f), fun _ => rfl⟩
abbrev noNoText (x : PySem.Str) : PySem.Str := PySem.Str.ofString "invalid literal for int() with base 10: '" ++ x ++ PySem.Str.ofString "'"
theorem use_nonum {w : World} {loose mean mg mb} {news : List (Addr × Obj)} {x : PySem.Str} {t : Tok} {dp un : Nat} {gd : Option (List Code)} {cn : PySem.Str} {cs : Scope} {a : Addr} {ccd : Value} {cl : List (PySem.Str × Addr)} {outer : List Env} {A₀ : Around} {base h₀ : Heap} {L : Addr} {m : PySem.Str → Option Value} {s : Shared} {Q E : Value → Shared → Prop}
    (B : Below A₀ base outer h₀) (F : Fr h₀ L s.heap m) (X : (MineTop.hd.heap_39 w.params).In h₀) (N : News h₀ L s.heap news) (T : Top MineTop.hd.view_39 loose mean mg mb h₀) (hk : cs.kind = .function)
    (hx : x.length ≤ 100) (hd : dp + 4 < recursionLimit) (hu : un + 20 < cLine)
    (hret : ∀ t h' tk', Fr h₀ L h' m → News h₀ L h' news → Q (.str (noNoText x) t) { s with heap := h', toks := tk' }) :
    wpAny (model PySem.Challenge.pw_in0098_01 w) (ktrTop dp un gd cn cs L a ccd cl outer) (call (.ref 144) [.str x t]) Q E s :=
  no_number_ct w x t hx dp un gd cn cs a ccd cl outer A₀ base h₀ L m s Q E B F X N T hk hd hu fun v news' h' tk' F' N' ⟨e, t', ev⟩ => by subst e ev; exact hret t' h' tk' F' N'
local macro_rules | `(tactic| walk_at "call ref") => `(tactic| (k_here; (with_reducible show wpAny _ _ (call (Value.ref 144) [Value.str _ _]) _ _ _); k_dflt (refine' use_nonum ?zB ?zF ?zX ?zN ?zT ?hk ?hx ?hd ?hu ?_); (case zB => k_asm); (case zF => k_asm); (case zX => k_asm); (case zN => k_asm); (case zT => k_asm); (case hk => rfl); (case hx => assumption); (case hd => ktr_room); (case hu => ktr_units); intro t' h' tk' F' N'; (try k_sweep)))
end Mine
end

section
open PySem PySem.W PyProof.Rows
namespace Mine
open PySem.Calls
local macro_rules | `(tactic| walk_at "call ref") => `(tactic| (k_here; (with_reducible show wpAny _ _ (call (Value.ref 123) [Value.int _ _, Value.int _ _]) _ _ _); k_dflt (refine' use_first ?zB ?zF ?zX ?zN ?zT ?hk ?hy ?hm ?hd ?hu ?_); (case zB => k_asm); (case zF => k_asm); (case zX => k_asm); (case zN => k_asm); (case zT => k_asm); (case hk => rfl); (case hy => assumption); (case hm => omega); (case hd => ktr_room); (case hu => ktr_units); intro t' h' tk' F' N'; (try k_sweep)))
local macro_rules | `(tactic| walk_at "ENTER") => `(tactic| (refine' leaf_enter ?k1 ?k2 ?k3 ?k4 ?k5 ?kA ?kF ?kK ?k6 ?k7 ?k8 ?k9 ?kB ?_ ?c2 ?c3 ?c4 ?c5; (case kA => exact rfl); (case kF => exact rfl); (case kK => assumption); (case k1 => k_asm); (case k2 => k_asm); (case k3 => k_asm); (case k4 => k_asm); (case k5 => k_asm); (case k6 => k_is); (case k7 => k_is); (case k8 => (simp only [depth_under_make, depth_under_kw, depth_in1, depth_deeper, depth_caller]; omega)); (case k9 => exact BindsTo.of_eq rfl); (case c5 => decide); (case kB => exact locs rfl); (case c2 => exact rfl); (case c3 => exact rfl); (case c4 => exact rfl); intro g' L' h' F' N' B' X' T' HK; (try dsimp only); (try k_lift B'); (try k_fold)))
local macro_rules | `(tactic| walk_at "compareOp NotIn int ref") => `(tactic| (k_here; (with_reducible show wpAny _ _ (compareOp CmpOp.NotIn (Value.int _ _) (Value.ref _)) _ _ _); k_dflt (refine' notin_rangeC ?hr ?_ ?_; (case hr => assumption)); (all_goals intros)))
local macro_rules | `(tactic| walk_at "call ref") => `(tactic| (k_here; (with_reducible show wpAny _ _ (call (Value.ref 144) [Value.str _ _]) _ _ _); k_dflt (refine' use_nonum ?zB ?zF ?zX ?zN ?zT ?hk ?hx ?hd ?hu ?_); (case zB => k_asm); (case zF => k_asm); (case zX => k_asm); (case zN => k_asm); (case zT => k_asm); (case hk => rfl); (case hx => assumption); (case hd => ktr_room); (case hu => ktr_units); intro t' h' tk' F' N'; (try k_sweep)))
local macro_rules | `(tactic| walk_at "execs cons") => `(tactic| (k_here; (with_reducible refine gen_toks ?_); intro tk'))
local macro_rules | `(tactic| walk_at "execs nil") => `(tactic| (k_here; (with_reducible refine gen_toks ?_); intro tk'))

set_option maxHeartbeats 4000000 in
theorem due_ctI (w : World) {loose mean mg mb} (l a0 a1 a2 a3 a4 a5 : Addr) (n : Nat) (d mo y h mi se : Int) (t0 t1 t2 t3 t4 t5 : Tok) (v0 v1 v2 v3 v4 v5 : Value)
    (hd' : -1 ≤ d ∧ d ≤ 100) (hmo : 1 ≤ mo ∧ mo ≤ 12) (hy : y ∈ yearsL) (hh : -1 ≤ h ∧ h ≤ 100) (hmi : 0 ≤ mi ∧ mi ≤ 100) (hse : 0 ≤ se ∧ se ≤ 100) :
    LeafH w loose mean mg mb 149 [(l, listOf [Value.ref a0, .ref a1, .ref a2, .ref a3, .ref a4, .ref a5].toArray n), (a0, tupOf [v0, .int d t0]), (a1, tupOf [v1, .int mo t1]), (a2, tupOf [v2, .int y t2]), (a3, tupOf [v3, .int h t3]), (a4, tupOf [v4, .int mi t4]), (a5, tupOf [v5, .int se t5])] [.ref l] (fun v _ => dueI d mo y h mi se v) := by
  have hl : (l, listOf [Value.ref a0, .ref a1, .ref a2, .ref a3, .ref a4, .ref a5].toArray n) ∈ [(l, listOf [Value.ref a0, .ref a1, .ref a2, .ref a3, .ref a4, .ref a5].toArray n), (a0, tupOf [v0, .int d t0]), (a1, tupOf [v1, .int mo t1]), (a2, tupOf [v2, .int y t2]), (a3, tupOf [v3, .int h t3]), (a4, tupOf [v4, .int mi t4]), (a5, tupOf [v5, .int se t5])] := by k_mem
  have p0 : (a0, tupOf [v0, .int d t0]) ∈ [(l, listOf [Value.ref a0, .ref a1, .ref a2, .ref a3, .ref a4, .ref a5].toArray n), (a0, tupOf [v0, .int d t0]), (a1, tupOf [v1, .int mo t1]), (a2, tupOf [v2, .int y t2]), (a3, tupOf [v3, .int h t3]), (a4, tupOf [v4, .int mi t4]), (a5, tupOf [v5, .int se t5])] := by k_mem
  have p1 : (a1, tupOf [v1, .int mo t1]) ∈ [(l, listOf [Value.ref a0, .ref a1, .ref a2, .ref a3, .ref a4, .ref a5].toArray n), (a0, tupOf [v0, .int d t0]), (a1, tupOf [v1, .int mo t1]), (a2, tupOf [v2, .int y t2]), (a3, tupOf [v3, .int h t3]), (a4, tupOf [v4, .int mi t4]), (a5, tupOf [v5, .int se t5])] := by k_mem
  have p2 : (a2, tupOf [v2, .int y t2]) ∈ [(l, listOf [Value.ref a0, .ref a1, .ref a2, .ref a3, .ref a4, .ref a5].toArray n), (a0, tupOf [v0, .int d t0]), (a1, tupOf [v1, .int mo t1]), (a2, tupOf [v2, .int y t2]), (a3, tupOf [v3, .int h t3]), (a4, tupOf [v4, .int mi t4]), (a5, tupOf [v5, .int se t5])] := by k_mem
  have p3 : (a3, tupOf [v3, .int h t3]) ∈ [(l, listOf [Value.ref a0, .ref a1, .ref a2, .ref a3, .ref a4, .ref a5].toArray n), (a0, tupOf [v0, .int d t0]), (a1, tupOf [v1, .int mo t1]), (a2, tupOf [v2, .int y t2]), (a3, tupOf [v3, .int h t3]), (a4, tupOf [v4, .int mi t4]), (a5, tupOf [v5, .int se t5])] := by k_mem
  have p4 : (a4, tupOf [v4, .int mi t4]) ∈ [(l, listOf [Value.ref a0, .ref a1, .ref a2, .ref a3, .ref a4, .ref a5].toArray n), (a0, tupOf [v0, .int d t0]), (a1, tupOf [v1, .int mo t1]), (a2, tupOf [v2, .int y t2]), (a3, tupOf [v3, .int h t3]), (a4, tupOf [v4, .int mi t4]), (a5, tupOf [v5, .int se t5])] := by k_mem
  have p5 : (a5, tupOf [v5, .int se t5]) ∈ [(l, listOf [Value.ref a0, .ref a1, .ref a2, .ref a3, .ref a4, .ref a5].toArray n), (a0, tupOf [v0, .int d t0]), (a1, tupOf [v1, .int mo t1]), (a2, tupOf [v2, .int y t2]), (a3, tupOf [v3, .int h t3]), (a4, tupOf [v4, .int mi t4]), (a5, tupOf [v5, .int se t5])] := by k_mem
  intro dp un gd cn cs a ccd cl outer A₀ base h₀ L m s Q E B F X N T hk hd hu hret
  k_dflt (walk_at "ENTER")
  rename (∀ _ _ _, Fr _ _ _ _ → News _ _ _ _ → Keeps _ _) => HK
  rename Fr _ _ _ _ => F0
  rename News _ _ _ _ => N0
  refine execs_cutH (fun s' => ∃ (h1 : Heap) (tk : Nat), s' = { s with heap := h1, toks := tk } ∧
      Fr (groundOf F0) (frameOf' F0) h1 (fun z => if z = PySem.Str.ofString "second" then some (.int se t5) else if z = PySem.Str.ofString "minute" then some (.int mi t4) else if z = PySem.Str.ofString "hour" then some (.int h t3) else if z = PySem.Str.ofString "year" then some (.int y t2) else if z = PySem.Str.ofString "month" then some (.int mo t1) else if z = PySem.Str.ofString "day" then some (.int d t0) else mapOf F0 z) ∧
      News (groundOf F0) (frameOf' F0) h1 [(l, listOf [Value.ref a0, .ref a1, .ref a2, .ref a3, .ref a4, .ref a5].toArray n), (a0, tupOf [v0, .int d t0]), (a1, tupOf [v1, .int mo t1]), (a2, tupOf [v2, .int y t2]), (a3, tupOf [v3, .int h t3]), (a4, tupOf [v4, .int mi t4]), (a5, tupOf [v5, .int se t5])]) 1 ?A ?B
  case A =>
    dsimp only [List.take]
    clear hret
    walk1
    walk1
    walk1
    walk1
    k_dflt (refine' comp_rest (j := 1) (as := [a0, a1, a2, a3, a4, a5]) ?c1 ?c2 ?c3 ?c4 ?c5 ?c6 6 0 [.int d t0, .int mo t1, .int y t2, .int h t3, .int mi t4, .int se t5] [] ?c7 ?c8 ?c9 ?c10)
    case c1 => decide
    case c2 => exact .inr ⟨_, hl, rfl, _, rfl⟩
    case c3 => decide
    case c4 => rfl
    case c5 => rfl
    case c6 => intro _ _; rfl
    case c7 => rfl
    case c8 => rfl
    case c9 => exact ht_six p0 p1 p2 p3 p4 p5 ⟨rfl, Nat.le_of_ble_eq_true rfl⟩ ⟨rfl, Nat.le_of_ble_eq_true rfl⟩ ⟨rfl, Nat.le_of_ble_eq_true rfl⟩ ⟨rfl, Nat.le_of_ble_eq_true rfl⟩ ⟨rfl, Nat.le_of_ble_eq_true rfl⟩ ⟨rfl, Nat.le_of_ble_eq_true rfl⟩
    case c10 =>
      k_steps
      refine' Hid.intro ⟨_, _, rfl, ?d1, cb_drop ?d2 ?d3⟩
      case d1 => k_asm
      case d2 => k_asm
      case d3 => intro p hp; exact List.mem_cons_of_mem _ hp
  intro s' hs'
  obtain ⟨h1, tk, rfl, F1, N1⟩ := hs'
  dsimp only [List.drop]
  dsimp only [groundOf, frameOf', mapOf] at F1 N1
  clear N0 hl p0 p1 p2 p3 p4 p5
  have hyb : 1970 ≤ y ∧ y ≤ 9999 := by
    simp only [yearsL, List.mem_cons, List.not_mem_nil, or_false] at hy
    omega
  have hfb := firstZ_bound y mo hy hmo
  k_steps
  all_goals (
    refine' hret _ _ _ (HK _ _ _ ?k1 (cb_drop ?k2 ?k3)) ?k4
    case k1 => k_asm
    case k2 => k_asm
    case k3 => intro p hp; repeat' (first | exact hp | apply List.mem_cons_of_mem)
    case k4 => first | exact dueI_t (inR_t (by omega) (by omega) (by omega) (by omega) (by omega) (by omega) (by omega) (by omega) (by omega)) | exact dueI_f (inR_f (by omega)))

set_option maxHeartbeats 4000000 in
theorem due_ct69 (w : World) {loose mean mg mb} (l a0 a1 a2 a3 a4 a5 : Addr) (n : Nat) (d mo h mi se : Int) (t0 t1 t2 t3 t4 t5 : Tok) (v0 v1 v2 v3 v4 v5 : Value)
    (hmo : 1 ≤ mo ∧ mo ≤ 12) :
    LeafH w loose mean mg mb 149 [(l, listOf [Value.ref a0, .ref a1, .ref a2, .ref a3, .ref a4, .ref a5].toArray n), (a0, tupOf [v0, .int d t0]), (a1, tupOf [v1, .int mo t1]), (a2, tupOf [v2, .int 1969 t2]), (a3, tupOf [v3, .int h t3]), (a4, tupOf [v4, .int mi t4]), (a5, tupOf [v5, .int se t5])] [.ref l] (fun v _ => v = .none) := by
  have hl : (l, listOf [Value.ref a0, .ref a1, .ref a2, .ref a3, .ref a4, .ref a5].toArray n) ∈ [(l, listOf [Value.ref a0, .ref a1, .ref a2, .ref a3, .ref a4, .ref a5].toArray n), (a0, tupOf [v0, .int d t0]), (a1, tupOf [v1, .int mo t1]), (a2, tupOf [v2, .int 1969 t2]), (a3, tupOf [v3, .int h t3]), (a4, tupOf [v4, .int mi t4]), (a5, tupOf [v5, .int se t5])] := by k_mem
  have p0 : (a0, tupOf [v0, .int d t0]) ∈ [(l, listOf [Value.ref a0, .ref a1, .ref a2, .ref a3, .ref a4, .ref a5].toArray n), (a0, tupOf [v0, .int d t0]), (a1, tupOf [v1, .int mo t1]), (a2, tupOf [v2, .int 1969 t2]), (a3, tupOf [v3, .int h t3]), (a4, tupOf [v4, .int mi t4]), (a5, tupOf [v5, .int se t5])] := by k_mem
  have p1 : (a1, tupOf [v1, .int mo t1]) ∈ [(l, listOf [Value.ref a0, .ref a1, .ref a2, .ref a3, .ref a4, .ref a5].toArray n), (a0, tupOf [v0, .int d t0]), (a1, tupOf [v1, .int mo t1]), (a2, tupOf [v2, .int 1969 t2]), (a3, tupOf [v3, .int h t3]), (a4, tupOf [v4, .int mi t4]), (a5, tupOf [v5, .int se t5])] := by k_mem
  have p2 : (a2, tupOf [v2, .int 1969 t2]) ∈ [(l, listOf [Value.ref a0, .ref a1, .ref a2, .ref a3, .ref a4, .ref a5].toArray n), (a0, tupOf [v0, .int d t0]), (a1, tupOf [v1, .int mo t1]), (a2, tupOf [v2, .int 1969 t2]), (a3, tupOf [v3, .int h t3]), (a4, tupOf [v4, .int mi t4]), (a5, tupOf [v5, .int se t5])] := by k_mem
  have p3 : (a3, tupOf [v3, .int h t3]) ∈ [(l, listOf [Value.ref a0, .ref a1, .ref a2, .ref a3, .ref a4, .ref a5].toArray n), (a0, tupOf [v0, .int d t0]), (a1, tupOf [v1, .int mo t1]), (a2, tupOf [v2, .int 1969 t2]), (a3, tupOf [v3, .int h t3]), (a4, tupOf [v4, .int mi t4]), (a5, tupOf [v5, .int se t5])] := by k_mem
  have p4 : (a4, tupOf [v4, .int mi t4]) ∈ [(l, listOf [Value.ref a0, .ref a1, .ref a2, .ref a3, .ref a4, .ref a5].toArray n), (a0, tupOf [v0, .int d t0]), (a1, tupOf [v1, .int mo t1]), (a2, tupOf [v2, .int 1969 t2]), (a3, tupOf [v3, .int h t3]), (a4, tupOf [v4, .int mi t4]), (a5, tupOf [v5, .int se t5])] := by k_mem
  have p5 : (a5, tupOf [v5, .int se t5]) ∈ [(l, listOf [Value.ref a0, .ref a1, .ref a2, .ref a3, .ref a4, .ref a5].toArray n), (a0, tupOf [v0, .int d t0]), (a1, tupOf [v1, .int mo t1]), (a2, tupOf [v2, .int 1969 t2]), (a3, tupOf [v3, .int h t3]), (a4, tupOf [v4, .int mi t4]), (a5, tupOf [v5, .int se t5])] := by k_mem
  intro dp un gd cn cs a ccd cl outer A₀ base h₀ L m s Q E B F X N T hk hd hu hret
  k_dflt (walk_at "ENTER")
  rename (∀ _ _ _, Fr _ _ _ _ → News _ _ _ _ → Keeps _ _) => HK
  rename Fr _ _ _ _ => F0
  rename News _ _ _ _ => N0
  refine execs_cutH (fun s' => ∃ (h1 : Heap) (tk : Nat), s' = { s with heap := h1, toks := tk } ∧
      Fr (groundOf F0) (frameOf' F0) h1 (fun z => if z = PySem.Str.ofString "second" then some (.int se t5) else if z = PySem.Str.ofString "minute" then some (.int mi t4) else if z = PySem.Str.ofString "hour" then some (.int h t3) else if z = PySem.Str.ofString "year" then some (.int 1969 t2) else if z = PySem.Str.ofString "month" then some (.int mo t1) else if z = PySem.Str.ofString "day" then some (.int d t0) else mapOf F0 z) ∧
      News (groundOf F0) (frameOf' F0) h1 [(l, listOf [Value.ref a0, .ref a1, .ref a2, .ref a3, .ref a4, .ref a5].toArray n), (a0, tupOf [v0, .int d t0]), (a1, tupOf [v1, .int mo t1]), (a2, tupOf [v2, .int 1969 t2]), (a3, tupOf [v3, .int h t3]), (a4, tupOf [v4, .int mi t4]), (a5, tupOf [v5, .int se t5])]) 1 ?A ?B
  case A =>
    dsimp only [List.take]
    clear hret
    walk1
    walk1
    walk1
    walk1
    k_dflt (refine' comp_rest (j := 1) (as := [a0, a1, a2, a3, a4, a5]) ?c1 ?c2 ?c3 ?c4 ?c5 ?c6 6 0 [.int d t0, .int mo t1, .int 1969 t2, .int h t3, .int mi t4, .int se t5] [] ?c7 ?c8 ?c9 ?c10)
    case c1 => decide
    case c2 => exact .inr ⟨_, hl, rfl, _, rfl⟩
    case c3 => decide
    case c4 => rfl
    case c5 => rfl
    case c6 => intro _ _; rfl
    case c7 => rfl
    case c8 => rfl
    case c9 => exact ht_six p0 p1 p2 p3 p4 p5 ⟨rfl, Nat.le_of_ble_eq_true rfl⟩ ⟨rfl, Nat.le_of_ble_eq_true rfl⟩ ⟨rfl, Nat.le_of_ble_eq_true rfl⟩ ⟨rfl, Nat.le_of_ble_eq_true rfl⟩ ⟨rfl, Nat.le_of_ble_eq_true rfl⟩ ⟨rfl, Nat.le_of_ble_eq_true rfl⟩
    case c10 =>
      k_steps
      refine' Hid.intro ⟨_, _, rfl, ?d1, cb_drop ?d2 ?d3⟩
      case d1 => k_asm
      case d2 => k_asm
      case d3 => intro p hp; exact List.mem_cons_of_mem _ hp
  intro s' hs'
  obtain ⟨h1, tk, rfl, F1, N1⟩ := hs'
  dsimp only [List.drop]
  dsimp only [groundOf, frameOf', mapOf] at F1 N1
  clear N0 hl p0 p1 p2 p3 p4 p5
  k_steps
  all_goals (
    refine' hret _ _ _ (HK _ _ _ ?k1 (cb_drop ?k2 ?k3)) ?k4
    case k1 => k_asm
    case k2 => k_asm
    case k3 => intro p hp; repeat' (first | exact hp | apply List.mem_cons_of_mem)
    case k4 => rfl)

set_option maxHeartbeats 4000000 in
theorem due_ctY (w : World) {loose mean mg mb} (l a0 a1 a2 a3 a4 a5 : Addr) (n : Nat) (x : PySem.Str) (tx : Tok) (hx : x.length ≤ 100) (k0 k1 k3 k4 k5 v0 v1 v3 v4 v5 : Value)
     :
    LeafH w loose mean mg mb 149 [(l, listOf [Value.ref a0, .ref a1, .ref a2, .ref a3, .ref a4, .ref a5].toArray n), (a0, tupOf [v0, k0]), (a1, tupOf [v1, k1]), (a2, tupOf [.str x tx, .none]), (a3, tupOf [v3, k3]), (a4, tupOf [v4, k4]), (a5, tupOf [v5, k5])] [.ref l] (fun v _ => ∃ u, v = .str (noNoText x) u) := by
  have hl : (l, listOf [Value.ref a0, .ref a1, .ref a2, .ref a3, .ref a4, .ref a5].toArray n) ∈ [(l, listOf [Value.ref a0, .ref a1, .ref a2, .ref a3, .ref a4, .ref a5].toArray n), (a0, tupOf [v0, k0]), (a1, tupOf [v1, k1]), (a2, tupOf [.str x tx, .none]), (a3, tupOf [v3, k3]), (a4, tupOf [v4, k4]), (a5, tupOf [v5, k5])] := by k_mem
  have p0 : (a0, tupOf [v0, k0]) ∈ [(l, listOf [Value.ref a0, .ref a1, .ref a2, .ref a3, .ref a4, .ref a5].toArray n), (a0, tupOf [v0, k0]), (a1, tupOf [v1, k1]), (a2, tupOf [.str x tx, .none]), (a3, tupOf [v3, k3]), (a4, tupOf [v4, k4]), (a5, tupOf [v5, k5])] := by k_mem
  have p1 : (a1, tupOf [v1, k1]) ∈ [(l, listOf [Value.ref a0, .ref a1, .ref a2, .ref a3, .ref a4, .ref a5].toArray n), (a0, tupOf [v0, k0]), (a1, tupOf [v1, k1]), (a2, tupOf [.str x tx, .none]), (a3, tupOf [v3, k3]), (a4, tupOf [v4, k4]), (a5, tupOf [v5, k5])] := by k_mem
  have p2 : (a2, tupOf [.str x tx, .none]) ∈ [(l, listOf [Value.ref a0, .ref a1, .ref a2, .ref a3, .ref a4, .ref a5].toArray n), (a0, tupOf [v0, k0]), (a1, tupOf [v1, k1]), (a2, tupOf [.str x tx, .none]), (a3, tupOf [v3, k3]), (a4, tupOf [v4, k4]), (a5, tupOf [v5, k5])] := by k_mem
  have p3 : (a3, tupOf [v3, k3]) ∈ [(l, listOf [Value.ref a0, .ref a1, .ref a2, .ref a3, .ref a4, .ref a5].toArray n), (a0, tupOf [v0, k0]), (a1, tupOf [v1, k1]), (a2, tupOf [.str x tx, .none]), (a3, tupOf [v3, k3]), (a4, tupOf [v4, k4]), (a5, tupOf [v5, k5])] := by k_mem
  have p4 : (a4, tupOf [v4, k4]) ∈ [(l, listOf [Value.ref a0, .ref a1, .ref a2, .ref a3, .ref a4, .ref a5].toArray n), (a0, tupOf [v0, k0]), (a1, tupOf [v1, k1]), (a2, tupOf [.str x tx, .none]), (a3, tupOf [v3, k3]), (a4, tupOf [v4, k4]), (a5, tupOf [v5, k5])] := by k_mem
  have p5 : (a5, tupOf [v5, k5]) ∈ [(l, listOf [Value.ref a0, .ref a1, .ref a2, .ref a3, .ref a4, .ref a5].toArray n), (a0, tupOf [v0, k0]), (a1, tupOf [v1, k1]), (a2, tupOf [.str x tx, .none]), (a3, tupOf [v3, k3]), (a4, tupOf [v4, k4]), (a5, tupOf [v5, k5])] := by k_mem
  intro dp un gd cn cs a ccd cl outer A₀ base h₀ L m s Q E B F X N T hk hd hu hret
  k_dflt (walk_at "ENTER")
  rename (∀ _ _ _, Fr _ _ _ _ → News _ _ _ _ → Keeps _ _) => HK
  rename Fr _ _ _ _ => F0
  rename News _ _ _ _ => N0
  refine execs_cutH (fun s' => ∃ (h1 : Heap) (tk : Nat), s' = { s with heap := h1, toks := tk } ∧
      Fr (groundOf F0) (frameOf' F0) h1 (fun z => if z = PySem.Str.ofString "second" then some (k5) else if z = PySem.Str.ofString "minute" then some (k4) else if z = PySem.Str.ofString "hour" then some (k3) else if z = PySem.Str.ofString "year" then some (.none) else if z = PySem.Str.ofString "month" then some (k1) else if z = PySem.Str.ofString "day" then some (k0) else mapOf F0 z) ∧
      News (groundOf F0) (frameOf' F0) h1 [(l, listOf [Value.ref a0, .ref a1, .ref a2, .ref a3, .ref a4, .ref a5].toArray n), (a0, tupOf [v0, k0]), (a1, tupOf [v1, k1]), (a2, tupOf [.str x tx, .none]), (a3, tupOf [v3, k3]), (a4, tupOf [v4, k4]), (a5, tupOf [v5, k5])]) 1 ?A ?B
  case A =>
    dsimp only [List.take]
    clear hret
    walk1
    walk1
    walk1
    walk1
    k_dflt (refine' comp_rest (j := 1) (as := [a0, a1, a2, a3, a4, a5]) ?c1 ?c2 ?c3 ?c4 ?c5 ?c6 6 0 [k0, k1, .none, k3, k4, k5] [] ?c7 ?c8 ?c9 ?c10)
    case c1 => decide
    case c2 => exact .inr ⟨_, hl, rfl, _, rfl⟩
    case c3 => decide
    case c4 => rfl
    case c5 => rfl
    case c6 => intro _ _; rfl
    case c7 => rfl
    case c8 => rfl
    case c9 => exact ht_six p0 p1 p2 p3 p4 p5 ⟨rfl, Nat.le_of_ble_eq_true rfl⟩ ⟨rfl, Nat.le_of_ble_eq_true rfl⟩ ⟨rfl, Nat.le_of_ble_eq_true rfl⟩ ⟨rfl, Nat.le_of_ble_eq_true rfl⟩ ⟨rfl, Nat.le_of_ble_eq_true rfl⟩ ⟨rfl, Nat.le_of_ble_eq_true rfl⟩
    case c10 =>
      k_steps
      refine' Hid.intro ⟨_, _, rfl, ?d1, cb_drop ?d2 ?d3⟩
      case d1 => k_asm
      case d2 => k_asm
      case d3 => intro p hp; exact List.mem_cons_of_mem _ hp
  intro s' hs'
  obtain ⟨h1, tk, rfl, F1, N1⟩ := hs'
  dsimp only [List.drop]
  dsimp only [groundOf, frameOf', mapOf] at F1 N1
  clear N0 hl p0 p1 p2 p3 p4 p5
  k_steps
  all_goals (
    refine' hret _ _ _ (HK _ _ _ ?k1 (cb_drop ?k2 ?k3)) ?k4
    case k1 => k_asm
    case k2 => k_asm
    case k3 => intro p hp; repeat' (first | exact hp | apply List.mem_cons_of_mem)
    case k4 => exact ⟨_, rfl⟩)

set_option maxHeartbeats 4000000 in
theorem due_ctO (w : World) {loose mean mg mb} (l a0 a1 a2 a3 a4 a5 : Addr) (n : Nat) (mo y : Int) (t1 t2 : Tok) (k0 k3 k4 k5 v0 v1 v2 v3 v4 v5 : Value)
    (ho : y > 9999 ∨ mo < 1 ∨ mo > 12) :
    LeafH w loose mean mg mb 149 [(l, listOf [Value.ref a0, .ref a1, .ref a2, .ref a3, .ref a4, .ref a5].toArray n), (a0, tupOf [v0, k0]), (a1, tupOf [v1, .int mo t1]), (a2, tupOf [v2, .int y t2]), (a3, tupOf [v3, k3]), (a4, tupOf [v4, k4]), (a5, tupOf [v5, k5])] [.ref l] (fun v _ => v = .none) := by
  have hl : (l, listOf [Value.ref a0, .ref a1, .ref a2, .ref a3, .ref a4, .ref a5].toArray n) ∈ [(l, listOf [Value.ref a0, .ref a1, .ref a2, .ref a3, .ref a4, .ref a5].toArray n), (a0, tupOf [v0, k0]), (a1, tupOf [v1, .int mo t1]), (a2, tupOf [v2, .int y t2]), (a3, tupOf [v3, k3]), (a4, tupOf [v4, k4]), (a5, tupOf [v5, k5])] := by k_mem
  have p0 : (a0, tupOf [v0, k0]) ∈ [(l, listOf [Value.ref a0, .ref a1, .ref a2, .ref a3, .ref a4, .ref a5].toArray n), (a0, tupOf [v0, k0]), (a1, tupOf [v1, .int mo t1]), (a2, tupOf [v2, .int y t2]), (a3, tupOf [v3, k3]), (a4, tupOf [v4, k4]), (a5, tupOf [v5, k5])] := by k_mem
  have p1 : (a1, tupOf [v1, .int mo t1]) ∈ [(l, listOf [Value.ref a0, .ref a1, .ref a2, .ref a3, .ref a4, .ref a5].toArray n), (a0, tupOf [v0, k0]), (a1, tupOf [v1, .int mo t1]), (a2, tupOf [v2, .int y t2]), (a3, tupOf [v3, k3]), (a4, tupOf [v4, k4]), (a5, tupOf [v5, k5])] := by k_mem
  have p2 : (a2, tupOf [v2, .int y t2]) ∈ [(l, listOf [Value.ref a0, .ref a1, .ref a2, .ref a3, .ref a4, .ref a5].toArray n), (a0, tupOf [v0, k0]), (a1, tupOf [v1, .int mo t1]), (a2, tupOf [v2, .int y t2]), (a3, tupOf [v3, k3]), (a4, tupOf [v4, k4]), (a5, tupOf [v5, k5])] := by k_mem
  have p3 : (a3, tupOf [v3, k3]) ∈ [(l, listOf [Value.ref a0, .ref a1, .ref a2, .ref a3, .ref a4, .ref a5].toArray n), (a0, tupOf [v0, k0]), (a1, tupOf [v1, .int mo t1]), (a2, tupOf [v2, .int y t2]), (a3, tupOf [v3, k3]), (a4, tupOf [v4, k4]), (a5, tupOf [v5, k5])] := by k_mem
  have p4 : (a4, tupOf [v4, k4]) ∈ [(l, listOf [Value.ref a0, .ref a1, .ref a2, .ref a3, .ref a4, .ref a5].toArray n), (a0, tupOf [v0, k0]), (a1, tupOf [v1, .int mo t1]), (a2, tupOf [v2, .int y t2]), (a3, tupOf [v3, k3]), (a4, tupOf [v4, k4]), (a5, tupOf [v5, k5])] := by k_mem
  have p5 : (a5, tupOf [v5, k5]) ∈ [(l, listOf [Value.ref a0, .ref a1, .ref a2, .ref a3, .ref a4, .ref a5].toArray n), (a0, tupOf [v0, k0]), (a1, tupOf [v1, .int mo t1]), (a2, tupOf [v2, .int y t2]), (a3, tupOf [v3, k3]), (a4, tupOf [v4, k4]), (a5, tupOf [v5, k5])] := by k_mem
  intro dp un gd cn cs a ccd cl outer A₀ base h₀ L m s Q E B F X N T hk hd hu hret
  k_dflt (walk_at "ENTER")
  rename (∀ _ _ _, Fr _ _ _ _ → News _ _ _ _ → Keeps _ _) => HK
  rename Fr _ _ _ _ => F0
  rename News _ _ _ _ => N0
  refine execs_cutH (fun s' => ∃ (h1 : Heap) (tk : Nat), s' = { s with heap := h1, toks := tk } ∧
      Fr (groundOf F0) (frameOf' F0) h1 (fun z => if z = PySem.Str.ofString "second" then some (k5) else if z = PySem.Str.ofString "minute" then some (k4) else if z = PySem.Str.ofString "hour" then some (k3) else if z = PySem.Str.ofString "year" then some (.int y t2) else if z = PySem.Str.ofString "month" then some (.int mo t1) else if z = PySem.Str.ofString "day" then some (k0) else mapOf F0 z) ∧
      News (groundOf F0) (frameOf' F0) h1 [(l, listOf [Value.ref a0, .ref a1, .ref a2, .ref a3, .ref a4, .ref a5].toArray n), (a0, tupOf [v0, k0]), (a1, tupOf [v1, .int mo t1]), (a2, tupOf [v2, .int y t2]), (a3, tupOf [v3, k3]), (a4, tupOf [v4, k4]), (a5, tupOf [v5, k5])]) 1 ?A ?B
  case A =>
    dsimp only [List.take]
    clear hret
    walk1
    walk1
    walk1
    walk1
    k_dflt (refine' comp_rest (j := 1) (as := [a0, a1, a2, a3, a4, a5]) ?c1 ?c2 ?c3 ?c4 ?c5 ?c6 6 0 [k0, .int mo t1, .int y t2, k3, k4, k5] [] ?c7 ?c8 ?c9 ?c10)
    case c1 => decide
    case c2 => exact .inr ⟨_, hl, rfl, _, rfl⟩
    case c3 => decide
    case c4 => rfl
    case c5 => rfl
    case c6 => intro _ _; rfl
    case c7 => rfl
    case c8 => rfl
    case c9 => exact ht_six p0 p1 p2 p3 p4 p5 ⟨rfl, Nat.le_of_ble_eq_true rfl⟩ ⟨rfl, Nat.le_of_ble_eq_true rfl⟩ ⟨rfl, Nat.le_of_ble_eq_true rfl⟩ ⟨rfl, Nat.le_of_ble_eq_true rfl⟩ ⟨rfl, Nat.le_of_ble_eq_true rfl⟩ ⟨rfl, Nat.le_of_ble_eq_true rfl⟩
    case c10 =>
      k_steps
      refine' Hid.intro ⟨_, _, rfl, ?d1, cb_drop ?d2 ?d3⟩
      case d1 => k_asm
      case d2 => k_asm
      case d3 => intro p hp; exact List.mem_cons_of_mem _ hp
  intro s' hs'
  obtain ⟨h1, tk, rfl, F1, N1⟩ := hs'
  dsimp only [List.drop]
  dsimp only [groundOf, frameOf', mapOf] at F1 N1
  clear N0 hl p0 p1 p2 p3 p4 p5
  k_steps
  all_goals (try omega)
  all_goals (
    refine' hret _ _ _ (HK _ _ _ ?k1 (cb_drop ?k2 ?k3)) ?k4
    case k1 => k_asm
    case k2 => k_asm
    case k3 => intro p hp; repeat' (first | exact hp | apply List.mem_cons_of_mem)
    case k4 => rfl)

set_option maxHeartbeats 4000000 in
theorem due_ctD (w : World) {loose mean mg mb} (l a0 a1 a2 a3 a4 a5 : Addr) (n : Nat) (x : PySem.Str) (tx : Tok) (hx : x.length ≤ 100) (mo y : Int) (t1 t2 : Tok) (k3 k4 k5 v1 v2 v3 v4 v5 : Value)
    (hmo : 1 ≤ mo ∧ mo ≤ 12) (hy : y ≤ 9999) :
    LeafH w loose mean mg mb 149 [(l, listOf [Value.ref a0, .ref a1, .ref a2, .ref a3, .ref a4, .ref a5].toArray n), (a0, tupOf [.str x tx, .none]), (a1, tupOf [v1, .int mo t1]), (a2, tupOf [v2, .int y t2]), (a3, tupOf [v3, k3]), (a4, tupOf [v4, k4]), (a5, tupOf [v5, k5])] [.ref l] (fun v _ => ∃ u, v = .str (noNoText x) u) := by
  have hl : (l, listOf [Value.ref a0, .ref a1, .ref a2, .ref a3, .ref a4, .ref a5].toArray n) ∈ [(l, listOf [Value.ref a0, .ref a1, .ref a2, .ref a3, .ref a4, .ref a5].toArray n), (a0, tupOf [.str x tx, .none]), (a1, tupOf [v1, .int mo t1]), (a2, tupOf [v2, .int y t2]), (a3, tupOf [v3, k3]), (a4, tupOf [v4, k4]), (a5, tupOf [v5, k5])] := by k_mem
  have p0 : (a0, tupOf [.str x tx, .none]) ∈ [(l, listOf [Value.ref a0, .ref a1, .ref a2, .ref a3, .ref a4, .ref a5].toArray n), (a0, tupOf [.str x tx, .none]), (a1, tupOf [v1, .int mo t1]), (a2, tupOf [v2, .int y t2]), (a3, tupOf [v3, k3]), (a4, tupOf [v4, k4]), (a5, tupOf [v5, k5])] := by k_mem
  have p1 : (a1, tupOf [v1, .int mo t1]) ∈ [(l, listOf [Value.ref a0, .ref a1, .ref a2, .ref a3, .ref a4, .ref a5].toArray n), (a0, tupOf [.str x tx, .none]), (a1, tupOf [v1, .int mo t1]), (a2, tupOf [v2, .int y t2]), (a3, tupOf [v3, k3]), (a4, tupOf [v4, k4]), (a5, tupOf [v5, k5])] := by k_mem
  have p2 : (a2, tupOf [v2, .int y t2]) ∈ [(l, listOf [Value.ref a0, .ref a1, .ref a2, .ref a3, .ref a4, .ref a5].toArray n), (a0, tupOf [.str x tx, .none]), (a1, tupOf [v1, .int mo t1]), (a2, tupOf [v2, .int y t2]), (a3, tupOf [v3, k3]), (a4, tupOf [v4, k4]), (a5, tupOf [v5, k5])] := by k_mem
  have p3 : (a3, tupOf [v3, k3]) ∈ [(l, listOf [Value.ref a0, .ref a1, .ref a2, .ref a3, .ref a4, .ref a5].toArray n), (a0, tupOf [.str x tx, .none]), (a1, tupOf [v1, .int mo t1]), (a2, tupOf [v2, .int y t2]), (a3, tupOf [v3, k3]), (a4, tupOf [v4, k4]), (a5, tupOf [v5, k5])] := by k_mem
  have p4 : (a4, tupOf [v4, k4]) ∈ [(l, listOf [Value.ref a0, .ref a1, .ref a2, .ref a3, .ref a4, .ref a5].toArray n), (a0, tupOf [.str x tx, .none]), (a1, tupOf [v1, .int mo t1]), (a2, tupOf [v2, .int y t2]), (a3, tupOf [v3, k3]), (a4, tupOf [v4, k4]), (a5, tupOf [v5, k5])] := by k_mem
  have p5 : (a5, tupOf [v5, k5]) ∈ [(l, listOf [Value.ref a0, .ref a1, .ref a2, .ref a3, .ref a4, .ref a5].toArray n), (a0, tupOf [.str x tx, .none]), (a1, tupOf [v1, .int mo t1]), (a2, tupOf [v2, .int y t2]), (a3, tupOf [v3, k3]), (a4, tupOf [v4, k4]), (a5, tupOf [v5, k5])] := by k_mem
  intro dp un gd cn cs a ccd cl outer A₀ base h₀ L m s Q E B F X N T hk hd hu hret
  k_dflt (walk_at "ENTER")
  rename (∀ _ _ _, Fr _ _ _ _ → News _ _ _ _ → Keeps _ _) => HK
  rename Fr _ _ _ _ => F0
  rename News _ _ _ _ => N0
  refine execs_cutH (fun s' => ∃ (h1 : Heap) (tk : Nat), s' = { s with heap := h1, toks := tk } ∧
      Fr (groundOf F0) (frameOf' F0) h1 (fun z => if z = PySem.Str.ofString "second" then some (k5) else if z = PySem.Str.ofString "minute" then some (k4) else if z = PySem.Str.ofString "hour" then some (k3) else if z = PySem.Str.ofString "year" then some (.int y t2) else if z = PySem.Str.ofString "month" then some (.int mo t1) else if z = PySem.Str.ofString "day" then some (.none) else mapOf F0 z) ∧
      News (groundOf F0) (frameOf' F0) h1 [(l, listOf [Value.ref a0, .ref a1, .ref a2, .ref a3, .ref a4, .ref a5].toArray n), (a0, tupOf [.str x tx, .none]), (a1, tupOf [v1, .int mo t1]), (a2, tupOf [v2, .int y t2]), (a3, tupOf [v3, k3]), (a4, tupOf [v4, k4]), (a5, tupOf [v5, k5])]) 1 ?A ?B
  case A =>
    dsimp only [List.take]
    clear hret
    walk1
    walk1
    walk1
    walk1
    k_dflt (refine' comp_rest (j := 1) (as := [a0, a1, a2, a3, a4, a5]) ?c1 ?c2 ?c3 ?c4 ?c5 ?c6 6 0 [.none, .int mo t1, .int y t2, k3, k4, k5] [] ?c7 ?c8 ?c9 ?c10)
    case c1 => decide
    case c2 => exact .inr ⟨_, hl, rfl, _, rfl⟩
    case c3 => decide
    case c4 => rfl
    case c5 => rfl
    case c6 => intro _ _; rfl
    case c7 => rfl
    case c8 => rfl
    case c9 => exact ht_six p0 p1 p2 p3 p4 p5 ⟨rfl, Nat.le_of_ble_eq_true rfl⟩ ⟨rfl, Nat.le_of_ble_eq_true rfl⟩ ⟨rfl, Nat.le_of_ble_eq_true rfl⟩ ⟨rfl, Nat.le_of_ble_eq_true rfl⟩ ⟨rfl, Nat.le_of_ble_eq_true rfl⟩ ⟨rfl, Nat.le_of_ble_eq_true rfl⟩
    case c10 =>
      k_steps
      refine' Hid.intro ⟨_, _, rfl, ?d1, cb_drop ?d2 ?d3⟩
      case d1 => k_asm
      case d2 => k_asm
      case d3 => intro p hp; exact List.mem_cons_of_mem _ hp
  intro s' hs'
  obtain ⟨h1, tk, rfl, F1, N1⟩ := hs'
  dsimp only [List.drop]
  dsimp only [groundOf, frameOf', mapOf] at F1 N1
  clear N0 hl p0 p1 p2 p3 p4 p5
  k_steps
  all_goals (
    refine' hret _ _ _ (HK _ _ _ ?k1 (cb_drop ?k2 ?k3)) ?k4
    case k1 => k_asm
    case k2 => k_asm
    case k3 => intro p hp; repeat' (first | exact hp | apply List.mem_cons_of_mem)
    case k4 => exact ⟨_, rfl⟩)

set_option maxHeartbeats 4000000 in
theorem due_ctH (w : World) {loose mean mg mb} (l a0 a1 a2 a3 a4 a5 : Addr) (n : Nat) (x : PySem.Str) (tx : Tok) (hx : x.length ≤ 100) (d mo y : Int) (t0 t1 t2 : Tok) (k4 k5 v0 v1 v2 v4 v5 : Value)
    (hmo : 1 ≤ mo ∧ mo ≤ 12) (hy : y ≤ 9999) :
    LeafH w loose mean mg mb 149 [(l, listOf [Value.ref a0, .ref a1, .ref a2, .ref a3, .ref a4, .ref a5].toArray n), (a0, tupOf [v0, .int d t0]), (a1, tupOf [v1, .int mo t1]), (a2, tupOf [v2, .int y t2]), (a3, tupOf [.str x tx, .none]), (a4, tupOf [v4, k4]), (a5, tupOf [v5, k5])] [.ref l] (fun v _ => ∃ u, v = .str (noNoText x) u) := by
  have hl : (l, listOf [Value.ref a0, .ref a1, .ref a2, .ref a3, .ref a4, .ref a5].toArray n) ∈ [(l, listOf [Value.ref a0, .ref a1, .ref a2, .ref a3, .ref a4, .ref a5].toArray n), (a0, tupOf [v0, .int d t0]), (a1, tupOf [v1, .int mo t1]), (a2, tupOf [v2, .int y t2]), (a3, tupOf [.str x tx, .none]), (a4, tupOf [v4, k4]), (a5, tupOf [v5, k5])] := by k_mem
  have p0 : (a0, tupOf [v0, .int d t0]) ∈ [(l, listOf [Value.ref a0, .ref a1, .ref a2, .ref a3, .ref a4, .ref a5].toArray n), (a0, tupOf [v0, .int d t0]), (a1, tupOf [v1, .int mo t1]), (a2, tupOf [v2, .int y t2]), (a3, tupOf [.str x tx, .none]), (a4, tupOf [v4, k4]), (a5, tupOf [v5, k5])] := by k_mem
  have p1 : (a1, tupOf [v1, .int mo t1]) ∈ [(l, listOf [Value.ref a0, .ref a1, .ref a2, .ref a3, .ref a4, .ref a5].toArray n), (a0, tupOf [v0, .int d t0]), (a1, tupOf [v1, .int mo t1]), (a2, tupOf [v2, .int y t2]), (a3, tupOf [.str x tx, .none]), (a4, tupOf [v4, k4]), (a5, tupOf [v5, k5])] := by k_mem
  have p2 : (a2, tupOf [v2, .int y t2]) ∈ [(l, listOf [Value.ref a0, .ref a1, .ref a2, .ref a3, .ref a4, .ref a5].toArray n), (a0, tupOf [v0, .int d t0]), (a1, tupOf [v1, .int mo t1]), (a2, tupOf [v2, .int y t2]), (a3, tupOf [.str x tx, .none]), (a4, tupOf [v4, k4]), (a5, tupOf [v5, k5])] := by k_mem
  have p3 : (a3, tupOf [.str x tx, .none]) ∈ [(l, listOf [Value.ref a0, .ref a1, .ref a2, .ref a3, .ref a4, .ref a5].toArray n), (a0, tupOf [v0, .int d t0]), (a1, tupOf [v1, .int mo t1]), (a2, tupOf [v2, .int y t2]), (a3, tupOf [.str x tx, .none]), (a4, tupOf [v4, k4]), (a5, tupOf [v5, k5])] := by k_mem
  have p4 : (a4, tupOf [v4, k4]) ∈ [(l, listOf [Value.ref a0, .ref a1, .ref a2, .ref a3, .ref a4, .ref a5].toArray n), (a0, tupOf [v0, .int d t0]), (a1, tupOf [v1, .int mo t1]), (a2, tupOf [v2, .int y t2]), (a3, tupOf [.str x tx, .none]), (a4, tupOf [v4, k4]), (a5, tupOf [v5, k5])] := by k_mem
  have p5 : (a5, tupOf [v5, k5]) ∈ [(l, listOf [Value.ref a0, .ref a1, .ref a2, .ref a3, .ref a4, .ref a5].toArray n), (a0, tupOf [v0, .int d t0]), (a1, tupOf [v1, .int mo t1]), (a2, tupOf [v2, .int y t2]), (a3, tupOf [.str x tx, .none]), (a4, tupOf [v4, k4]), (a5, tupOf [v5, k5])] := by k_mem
  intro dp un gd cn cs a ccd cl outer A₀ base h₀ L m s Q E B F X N T hk hd hu hret
  k_dflt (walk_at "ENTER")
  rename (∀ _ _ _, Fr _ _ _ _ → News _ _ _ _ → Keeps _ _) => HK
  rename Fr _ _ _ _ => F0
  rename News _ _ _ _ => N0
  refine execs_cutH (fun s' => ∃ (h1 : Heap) (tk : Nat), s' = { s with heap := h1, toks := tk } ∧
      Fr (groundOf F0) (frameOf' F0) h1 (fun z => if z = PySem.Str.ofString "second" then some (k5) else if z = PySem.Str.ofString "minute" then some (k4) else if z = PySem.Str.ofString "hour" then some (.none) else if z = PySem.Str.ofString "year" then some (.int y t2) else if z = PySem.Str.ofString "month" then some (.int mo t1) else if z = PySem.Str.ofString "day" then some (.int d t0) else mapOf F0 z) ∧
      News (groundOf F0) (frameOf' F0) h1 [(l, listOf [Value.ref a0, .ref a1, .ref a2, .ref a3, .ref a4, .ref a5].toArray n), (a0, tupOf [v0, .int d t0]), (a1, tupOf [v1, .int mo t1]), (a2, tupOf [v2, .int y t2]), (a3, tupOf [.str x tx, .none]), (a4, tupOf [v4, k4]), (a5, tupOf [v5, k5])]) 1 ?A ?B
  case A =>
    dsimp only [List.take]
    clear hret
    walk1
    walk1
    walk1
    walk1
    k_dflt (refine' comp_rest (j := 1) (as := [a0, a1, a2, a3, a4, a5]) ?c1 ?c2 ?c3 ?c4 ?c5 ?c6 6 0 [.int d t0, .int mo t1, .int y t2, .none, k4, k5] [] ?c7 ?c8 ?c9 ?c10)
    case c1 => decide
    case c2 => exact .inr ⟨_, hl, rfl, _, rfl⟩
    case c3 => decide
    case c4 => rfl
    case c5 => rfl
    case c6 => intro _ _; rfl
    case c7 => rfl
    case c8 => rfl
    case c9 => exact ht_six p0 p1 p2 p3 p4 p5 ⟨rfl, Nat.le_of_ble_eq_true rfl⟩ ⟨rfl, Nat.le_of_ble_eq_true rfl⟩ ⟨rfl, Nat.le_of_ble_eq_true rfl⟩ ⟨rfl, Nat.le_of_ble_eq_true rfl⟩ ⟨rfl, Nat.le_of_ble_eq_true rfl⟩ ⟨rfl, Nat.le_of_ble_eq_true rfl⟩
    case c10 =>
      k_steps
      refine' Hid.intro ⟨_, _, rfl, ?d1, cb_drop ?d2 ?d3⟩
      case d1 => k_asm
      case d2 => k_asm
      case d3 => intro p hp; exact List.mem_cons_of_mem _ hp
  intro s' hs'
  obtain ⟨h1, tk, rfl, F1, N1⟩ := hs'
  dsimp only [List.drop]
  dsimp only [groundOf, frameOf', mapOf] at F1 N1
  clear N0 hl p0 p1 p2 p3 p4 p5
  k_steps
  all_goals (
    refine' hret _ _ _ (HK _ _ _ ?k1 (cb_drop ?k2 ?k3)) ?k4
    case k1 => k_asm
    case k2 => k_asm
    case k3 => intro p hp; repeat' (first | exact hp | apply List.mem_cons_of_mem)
    case k4 => exact ⟨_, rfl⟩)

set_option maxHeartbeats 4000000 in
theorem due_ctM (w : World) {loose mean mg mb} (l a0 a1 a2 a3 a4 a5 : Addr) (n : Nat) (x : PySem.Str) (tx : Tok) (hx : x.length ≤ 100) (d mo y h : Int) (t0 t1 t2 t3 : Tok) (k5 v0 v1 v2 v3 v5 : Value)
    (hmo : 1 ≤ mo ∧ mo ≤ 12) (hy : y ≤ 9999) :
    LeafH w loose mean mg mb 149 [(l, listOf [Value.ref a0, .ref a1, .ref a2, .ref a3, .ref a4, .ref a5].toArray n), (a0, tupOf [v0, .int d t0]), (a1, tupOf [v1, .int mo t1]), (a2, tupOf [v2, .int y t2]), (a3, tupOf [v3, .int h t3]), (a4, tupOf [.str x tx, .none]), (a5, tupOf [v5, k5])] [.ref l] (fun v _ => ∃ u, v = .str (noNoText x) u) := by
  have hl : (l, listOf [Value.ref a0, .ref a1, .ref a2, .ref a3, .ref a4, .ref a5].toArray n) ∈ [(l, listOf [Value.ref a0, .ref a1, .ref a2, .ref a3, .ref a4, .ref a5].toArray n), (a0, tupOf [v0, .int d t0]), (a1, tupOf [v1, .int mo t1]), (a2, tupOf [v2, .int y t2]), (a3, tupOf [v3, .int h t3]), (a4, tupOf [.str x tx, .none]), (a5, tupOf [v5, k5])] := by k_mem
  have p0 : (a0, tupOf [v0, .int d t0]) ∈ [(l, listOf [Value.ref a0, .ref a1, .ref a2, .ref a3, .ref a4, .ref a5].toArray n), (a0, tupOf [v0, .int d t0]), (a1, tupOf [v1, .int mo t1]), (a2, tupOf [v2, .int y t2]), (a3, tupOf [v3, .int h t3]), (a4, tupOf [.str x tx, .none]), (a5, tupOf [v5, k5])] := by k_mem
  have p1 : (a1, tupOf [v1, .int mo t1]) ∈ [(l, listOf [Value.ref a0, .ref a1, .ref a2, .ref a3, .ref a4, .ref a5].toArray n), (a0, tupOf [v0, .int d t0]), (a1, tupOf [v1, .int mo t1]), (a2, tupOf [v2, .int y t2]), (a3, tupOf [v3, .int h t3]), (a4, tupOf [.str x tx, .none]), (a5, tupOf [v5, k5])] := by k_mem
  have p2 : (a2, tupOf [v2, .int y t2]) ∈ [(l, listOf [Value.ref a0, .ref a1, .ref a2, .ref a3, .ref a4, .ref a5].toArray n), (a0, tupOf [v0, .int d t0]), (a1, tupOf [v1, .int mo t1]), (a2, tupOf [v2, .int y t2]), (a3, tupOf [v3, .int h t3]), (a4, tupOf [.str x tx, .none]), (a5, tupOf [v5, k5])] := by k_mem
  have p3 : (a3, tupOf [v3, .int h t3]) ∈ [(l, listOf [Value.ref a0, .ref a1, .ref a2, .ref a3, .ref a4, .ref a5].toArray n), (a0, tupOf [v0, .int d t0]), (a1, tupOf [v1, .int mo t1]), (a2, tupOf [v2, .int y t2]), (a3, tupOf [v3, .int h t3]), (a4, tupOf [.str x tx, .none]), (a5, tupOf [v5, k5])] := by k_mem
  have p4 : (a4, tupOf [.str x tx, .none]) ∈ [(l, listOf [Value.ref a0, .ref a1, .ref a2, .ref a3, .ref a4, .ref a5].toArray n), (a0, tupOf [v0, .int d t0]), (a1, tupOf [v1, .int mo t1]), (a2, tupOf [v2, .int y t2]), (a3, tupOf [v3, .int h t3]), (a4, tupOf [.str x tx, .none]), (a5, tupOf [v5, k5])] := by k_mem
  have p5 : (a5, tupOf [v5, k5]) ∈ [(l, listOf [Value.ref a0, .ref a1, .ref a2, .ref a3, .ref a4, .ref a5].toArray n), (a0, tupOf [v0, .int d t0]), (a1, tupOf [v1, .int mo t1]), (a2, tupOf [v2, .int y t2]), (a3, tupOf [v3, .int h t3]), (a4, tupOf [.str x tx, .none]), (a5, tupOf [v5, k5])] := by k_mem
  intro dp un gd cn cs a ccd cl outer A₀ base h₀ L m s Q E B F X N T hk hd hu hret
  k_dflt (walk_at "ENTER")
  rename (∀ _ _ _, Fr _ _ _ _ → News _ _ _ _ → Keeps _ _) => HK
  rename Fr _ _ _ _ => F0
  rename News _ _ _ _ => N0
  refine execs_cutH (fun s' => ∃ (h1 : Heap) (tk : Nat), s' = { s with heap := h1, toks := tk } ∧
      Fr (groundOf F0) (frameOf' F0) h1 (fun z => if z = PySem.Str.ofString "second" then some (k5) else if z = PySem.Str.ofString "minute" then some (.none) else if z = PySem.Str.ofString "hour" then some (.int h t3) else if z = PySem.Str.ofString "year" then some (.int y t2) else if z = PySem.Str.ofString "month" then some (.int mo t1) else if z = PySem.Str.ofString "day" then some (.int d t0) else mapOf F0 z) ∧
      News (groundOf F0) (frameOf' F0) h1 [(l, listOf [Value.ref a0, .ref a1, .ref a2, .ref a3, .ref a4, .ref a5].toArray n), (a0, tupOf [v0, .int d t0]), (a1, tupOf [v1, .int mo t1]), (a2, tupOf [v2, .int y t2]), (a3, tupOf [v3, .int h t3]), (a4, tupOf [.str x tx, .none]), (a5, tupOf [v5, k5])]) 1 ?A ?B
  case A =>
    dsimp only [List.take]
    clear hret
    walk1
    walk1
    walk1
    walk1
    k_dflt (refine' comp_rest (j := 1) (as := [a0, a1, a2, a3, a4, a5]) ?c1 ?c2 ?c3 ?c4 ?c5 ?c6 6 0 [.int d t0, .int mo t1, .int y t2, .int h t3, .none, k5] [] ?c7 ?c8 ?c9 ?c10)
    case c1 => decide
    case c2 => exact .inr ⟨_, hl, rfl, _, rfl⟩
    case c3 => decide
    case c4 => rfl
    case c5 => rfl
    case c6 => intro _ _; rfl
    case c7 => rfl
    case c8 => rfl
    case c9 => exact ht_six p0 p1 p2 p3 p4 p5 ⟨rfl, Nat.le_of_ble_eq_true rfl⟩ ⟨rfl, Nat.le_of_ble_eq_true rfl⟩ ⟨rfl, Nat.le_of_ble_eq_true rfl⟩ ⟨rfl, Nat.le_of_ble_eq_true rfl⟩ ⟨rfl, Nat.le_of_ble_eq_true rfl⟩ ⟨rfl, Nat.le_of_ble_eq_true rfl⟩
    case c10 =>
      k_steps
      refine' Hid.intro ⟨_, _, rfl, ?d1, cb_drop ?d2 ?d3⟩
      case d1 => k_asm
      case d2 => k_asm
      case d3 => intro p hp; exact List.mem_cons_of_mem _ hp
  intro s' hs'
  obtain ⟨h1, tk, rfl, F1, N1⟩ := hs'
  dsimp only [List.drop]
  dsimp only [groundOf, frameOf', mapOf] at F1 N1
  clear N0 hl p0 p1 p2 p3 p4 p5
  k_steps
  all_goals (
    refine' hret _ _ _ (HK _ _ _ ?k1 (cb_drop ?k2 ?k3)) ?k4
    case k1 => k_asm
    case k2 => k_asm
    case k3 => intro p hp; repeat' (first | exact hp | apply List.mem_cons_of_mem)
    case k4 => exact ⟨_, rfl⟩)

set_option maxHeartbeats 4000000 in
theorem due_ctS (w : World) {loose mean mg mb} (l a0 a1 a2 a3 a4 a5 : Addr) (n : Nat) (x : PySem.Str) (tx : Tok) (hx : x.length ≤ 100) (d mo y h mi : Int) (t0 t1 t2 t3 t4 : Tok) (v0 v1 v2 v3 v4 : Value)
    (hmo : 1 ≤ mo ∧ mo ≤ 12) (hy : y ≤ 9999) :
    LeafH w loose mean mg mb 149 [(l, listOf [Value.ref a0, .ref a1, .ref a2, .ref a3, .ref a4, .ref a5].toArray n), (a0, tupOf [v0, .int d t0]), (a1, tupOf [v1, .int mo t1]), (a2, tupOf [v2, .int y t2]), (a3, tupOf [v3, .int h t3]), (a4, tupOf [v4, .int mi t4]), (a5, tupOf [.str x tx, .none])] [.ref l] (fun v _ => ∃ u, v = .str (noNoText x) u) := by
  have hl : (l, listOf [Value.ref a0, .ref a1, .ref a2, .ref a3, .ref a4, .ref a5].toArray n) ∈ [(l, listOf [Value.ref a0, .ref a1, .ref a2, .ref a3, .ref a4, .ref a5].toArray n), (a0, tupOf [v0, .int d t0]), (a1, tupOf [v1, .int mo t1]), (a2, tupOf [v2, .int y t2]), (a3, tupOf [v3, .int h t3]), (a4, tupOf [v4, .int mi t4]), (a5, tupOf [.str x tx, .none])] := by k_mem
  have p0 : (a0, tupOf [v0, .int d t0]) ∈ [(l, listOf [Value.ref a0, .ref a1, .ref a2, .ref a3, .ref a4, .ref a5].toArray n), (a0, tupOf [v0, .int d t0]), (a1, tupOf [v1, .int mo t1]), (a2, tupOf [v2, .int y t2]), (a3, tupOf [v3, .int h t3]), (a4, tupOf [v4, .int mi t4]), (a5, tupOf [.str x tx, .none])] := by k_mem
  have p1 : (a1, tupOf [v1, .int mo t1]) ∈ [(l, listOf [Value.ref a0, .ref a1, .ref a2, .ref a3, .ref a4, .ref a5].toArray n), (a0, tupOf [v0, .int d t0]), (a1, tupOf [v1, .int mo t1]), (a2, tupOf [v2, .int y t2]), (a3, tupOf [v3, .int h t3]), (a4, tupOf [v4, .int mi t4]), (a5, tupOf [.str x tx, .none])] := by k_mem
  have p2 : (a2, tupOf [v2, .int y t2]) ∈ [(l, listOf [Value.ref a0, .ref a1, .ref a2, .ref a3, .ref a4, .ref a5].toArray n), (a0, tupOf [v0, .int d t0]), (a1, tupOf [v1, .int mo t1]), (a2, tupOf [v2, .int y t2]), (a3, tupOf [v3, .int h t3]), (a4, tupOf [v4, .int mi t4]), (a5, tupOf [.str x tx, .none])] := by k_mem
  have p3 : (a3, tupOf [v3, .int h t3]) ∈ [(l, listOf [Value.ref a0, .ref a1, .ref a2, .ref a3, .ref a4, .ref a5].toArray n), (a0, tupOf [v0, .int d t0]), (a1, tupOf [v1, .int mo t1]), (a2, tupOf [v2, .int y t2]), (a3, tupOf [v3, .int h t3]), (a4, tupOf [v4, .int mi t4]), (a5, tupOf [.str x tx, .none])] := by k_mem
  have p4 : (a4, tupOf [v4, .int mi t4]) ∈ [(l, listOf [Value.ref a0, .ref a1, .ref a2, .ref a3, .ref a4, .ref a5].toArray n), (a0, tupOf [v0, .int d t0]), (a1, tupOf [v1, .int mo t1]), (a2, tupOf [v2, .int y t2]), (a3, tupOf [v3, .int h t3]), (a4, tupOf [v4, .int mi t4]), (a5, tupOf [.str x tx, .none])] := by k_mem
  have p5 : (a5, tupOf [.str x tx, .none]) ∈ [(l, listOf [Value.ref a0, .ref a1, .ref a2, .ref a3, .ref a4, .ref a5].toArray n), (a0, tupOf [v0, .int d t0]), (a1, tupOf [v1, .int mo t1]), (a2, tupOf [v2, .int y t2]), (a3, tupOf [v3, .int h t3]), (a4, tupOf [v4, .int mi t4]), (a5, tupOf [.str x tx, .none])] := by k_mem
  intro dp un gd cn cs a ccd cl outer A₀ base h₀ L m s Q E B F X N T hk hd hu hret
  k_dflt (walk_at "ENTER")
  rename (∀ _ _ _, Fr _ _ _ _ → News _ _ _ _ → Keeps _ _) => HK
  rename Fr _ _ _ _ => F0
  rename News _ _ _ _ => N0
  refine execs_cutH (fun s' => ∃ (h1 : Heap) (tk : Nat), s' = { s with heap := h1, toks := tk } ∧
      Fr (groundOf F0) (frameOf' F0) h1 (fun z => if z = PySem.Str.ofString "second" then some (.none) else if z = PySem.Str.ofString "minute" then some (.int mi t4) else if z = PySem.Str.ofString "hour" then some (.int h t3) else if z = PySem.Str.ofString "year" then some (.int y t2) else if z = PySem.Str.ofString "month" then some (.int mo t1) else if z = PySem.Str.ofString "day" then some (.int d t0) else mapOf F0 z) ∧
      News (groundOf F0) (frameOf' F0) h1 [(l, listOf [Value.ref a0, .ref a1, .ref a2, .ref a3, .ref a4, .ref a5].toArray n), (a0, tupOf [v0, .int d t0]), (a1, tupOf [v1, .int mo t1]), (a2, tupOf [v2, .int y t2]), (a3, tupOf [v3, .int h t3]), (a4, tupOf [v4, .int mi t4]), (a5, tupOf [.str x tx, .none])]) 1 ?A ?B
  case A =>
    dsimp only [List.take]
    clear hret
    walk1
    walk1
    walk1
    walk1
    k_dflt (refine' comp_rest (j := 1) (as := [a0, a1, a2, a3, a4, a5]) ?c1 ?c2 ?c3 ?c4 ?c5 ?c6 6 0 [.int d t0, .int mo t1, .int y t2, .int h t3, .int mi t4, .none] [] ?c7 ?c8 ?c9 ?c10)
    case c1 => decide
    case c2 => exact .inr ⟨_, hl, rfl, _, rfl⟩
    case c3 => decide
    case c4 => rfl
    case c5 => rfl
    case c6 => intro _ _; rfl
    case c7 => rfl
    case c8 => rfl
    case c9 => exact ht_six p0 p1 p2 p3 p4 p5 ⟨rfl, Nat.le_of_ble_eq_true rfl⟩ ⟨rfl, Nat.le_of_ble_eq_true rfl⟩ ⟨rfl, Nat.le_of_ble_eq_true rfl⟩ ⟨rfl, Nat.le_of_ble_eq_true rfl⟩ ⟨rfl, Nat.le_of_ble_eq_true rfl⟩ ⟨rfl, Nat.le_of_ble_eq_true rfl⟩
    case c10 =>
      k_steps
      refine' Hid.intro ⟨_, _, rfl, ?d1, cb_drop ?d2 ?d3⟩
      case d1 => k_asm
      case d2 => k_asm
      case d3 => intro p hp; exact List.mem_cons_of_mem _ hp
  intro s' hs'
  obtain ⟨h1, tk, rfl, F1, N1⟩ := hs'
  dsimp only [List.drop]
  dsimp only [groundOf, frameOf', mapOf] at F1 N1
  clear N0 hl p0 p1 p2 p3 p4 p5
  k_steps
  all_goals (
    refine' hret _ _ _ (HK _ _ _ ?k1 (cb_drop ?k2 ?k3)) ?k4
    case k1 => k_asm
    case k2 => k_asm
    case k3 => intro p hp; repeat' (first | exact hp | apply List.mem_cons_of_mem)
    case k4 => exact ⟨_, rfl⟩)
end Mine
end

section
open PySem PySem.W PyProof.Rows
namespace Mine
open PySem.Calls
@[irreducible] def ordZ (y mo : Int) : Int := Builtin._datetime.toOrdinal y mo 1
theorem ordZ_eq (y mo : Int) : ordZ y mo = Builtin._datetime.toOrdinal y mo 1 := by unfold ordZ; rfl
section
variable {prog : Program} {w : World} {A : Around} {E : Value → Shared → Prop} {s : Shared} {h₀ : Heap} {L : Addr} {news : List (Addr × Obj)} {m : PySem.Str → Option Value}
theorem date_K {y mo : Int} {ty tm td : Tok} {Q : Value → Shared → Prop} (F : Fr h₀ L s.heap m) (N : News h₀ L s.heap news) (hy : 1970 ≤ y ∧ y ≤ 9999) (hm : 1 ≤ mo ∧ mo ≤ 12)
    (h : ∀ D h', Fr h₀ L h' m → News h₀ L h' ((D, dateObj y mo 1) :: news) → Q (.ref D) { s with heap := h' }) : wpAny (model prog w) A (call (.type "datetime.date") [.int y ty, .int mo tm, .int 1 td]) Q E s :=
  call_date hy hm (h _ _ (F.push _) (News.push F N _))
theorem method_ordK {D : Addr} {y mo : Int} {pl : Sem Bool} {Q : Value × List Value → Shared → Prop} (N : News h₀ L s.heap news) (hm : (D, dateObj y mo 1) ∈ news) (h : Q (.builtin "datetime.date.toordinal", [.ref D]) s) :
    wpAny (model prog w) A (getMethod (.ref D) "toordinal" pl) Q E s := method_ord (N _ hm).1 h
theorem call_ordK {D : Addr} {y mo : Int} {Q : Value → Shared → Prop} (N : News h₀ L s.heap news) (hm : (D, dateObj y mo 1) ∈ news) (h : ∀ t, Q (.int (ordZ y mo) t) { s with toks := s.toks + 1 }) :
    wpAny (model prog w) A (call (.builtin "datetime.date.toordinal") [.ref D]) Q E s := call_ord (N _ hm).1 (by rw [← ordZ_eq]; exact h _)
end
theorem ord_bound (y mo : Int) (hy : 1970 ≤ y ∧ y ≤ 9999) : 0 ≤ ordZ y mo ∧ ordZ y mo ≤ 10000000 := by
  rw [ordZ_eq]
  unfold Builtin._datetime.toOrdinal Builtin.Time.timeDaysBefore
  have hb : ∀ k : Nat, (0 : Int) ≤ (([0, 31, 59, 90, 120, 151, 181, 212, 243, 273, 304, 334] : List Int)[k]?).getD 0 ∧ (([0, 31, 59, 90, 120, 151, 181, 212, 243, 273, 304, 334] : List Int)[k]?).getD 0 ≤ 400 := by
    intro k
    by_cases hk : k < 12
    · exact (by decide : ∀ k : Nat, k < 12 → (0 : Int) ≤ (([0, 31, 59, 90, 120, 151, 181, 212, 243, 273, 304, 334] : List Int)[k]?).getD 0 ∧ (([0, 31, 59, 90, 120, 151, 181, 212, 243, 273, 304, 334] : List Int)[k]?).getD 0 ≤ 400) k hk
    · rw [List.getElem?_eq_none (by simp; omega)]; decide
  have h1 := hb (mo - 1).toNat
  have h2 : ∀ c : Prop, [Decidable c] → 0 ≤ (if c then (1 : Int) else 0) ∧ (if c then (1 : Int) else 0) ≤ 1 := by intro c _; split <;> decide
  have h3 := h2 ((Builtin.Time.timeIsLeap y && decide (mo > 2)) = true)
  dsimp only
  omega
local macro_rules | `(tactic| walk_at "call type:datetime.date") => `(tactic| (k_here; k_dflt (refine' date_K ?zF ?zN ?hy ?hm ?_); (case zF => k_asm); (case zN => k_asm); (case hy => omega); (case hm => omega); intro D' h' F' N'; (try k_sweep); (try dsimp only)))
local macro_rules | `(tactic| walk_at "getMethod ref") => `(tactic| (k_here; (with_reducible show wpAny _ _ (getMethod (Value.ref _) _ _) _ _ _); k_dflt (refine' method_ordK ?zN ?zm ?_); (case zN => k_asm); (case zm => k_mem)))
local macro_rules | `(tactic| walk_at "call builtin:datetime.date.toordinal") => `(tactic| (k_here; k_dflt (refine' call_ordK ?zN ?zm ?_); (case zN => k_asm); (case zm => k_mem); intro t'; (try dsimp only)))
local macro_rules | `(tactic| walk_at "subscriptTail Name Slice ref ref") => `(tactic| (k_here; (with_reducible show wpAny _ _ (subscriptTail _ (PySem.Expr.Slice none (some _) none _) (Value.ref _) (Value.ref _)) _ _ _); k_dflt (refine' slice_tuple_6 ?zF ?zN ?zm ?_ ?zs ?zt; (case zF => k_asm); (case zN => k_asm); (case zm => k_mem); (case zs => with_unfolding_all rfl); (case zt => kmk_pure); k_whole); intro D' h' F' N'; (try k_sweep); (try dsimp only)))
local macro_rules | `(tactic| walk_at "ENTER") => `(tactic| (refine' leaf_enter ?k1 ?k2 ?k3 ?k4 ?k5 ?kA ?kF ?kK ?k6 ?k7 ?k8 ?k9 ?kB ?_ ?c2 ?c3 ?c4 ?c5; (case kA => exact rfl); (case kF => exact rfl); (case kK => assumption); (case k1 => k_asm); (case k2 => k_asm); (case k3 => k_asm); (case k4 => k_asm); (case k5 => k_asm); (case k6 => k_is); (case k7 => k_is); (case k8 => (simp only [depth_under_make, depth_under_kw, depth_in1, depth_deeper, depth_caller]; omega)); (case k9 => exact BindsTo.of_eq rfl); (case c5 => decide); (case kB => exact locs rfl); (case c2 => exact rfl); (case c3 => exact rfl); (case c4 => exact rfl); intro g' L' h' F' N' B' X' T' HK; (try dsimp only); (try k_lift B'); (try k_fold)))
def gmZ (d mo y h mi se : Int) : Int := (((ordZ y mo - 719163 + d - 1) * 24 + h) * 60 + mi) * 60 + se

set_option maxHeartbeats 4000000 in
theorem timegm_ct (w : World) {loose mean mg mb} (tp : Addr) (y mo d h mi se : Int) (t0 t1 t2 t3 t4 t5 : Tok) (vz : Value)
    (hy : 1970 ≤ y ∧ y ≤ 9999) (hmo : 1 ≤ mo ∧ mo ≤ 12) (hd' : -1 ≤ d ∧ d ≤ 100) (hh : -1 ≤ h ∧ h ≤ 100) (hmi : 0 ≤ mi ∧ mi ≤ 100) (hse : 0 ≤ se ∧ se ≤ 100) :
    LeafH w loose mean mg mb 69 [(tp, tupOf [.int y t0, .int mo t1, .int d t2, .int h t3, .int mi t4, .int se t5, vz])] [.ref tp] (fun v _ => ∃ t, v = .int (gmZ d mo y h mi se) t) := by
  intro dp un gd cn cs a ccd cl outer A₀ base h₀ L m s Q E B F X N T hk hd hu hret
  k_dflt (walk_at "ENTER")
  rename (∀ _ _ _, Fr _ _ _ _ → News _ _ _ _ → Keeps _ _) => HK
  have hob := ord_bound y mo hy
  k_steps
  all_goals (
    refine' hret _ _ _ (HK _ _ _ ?k1 (cb_drop ?k2 ?k3)) ?k4
    case k1 => k_asm
    case k2 => k_asm
    case k3 => intro p hp; repeat' (first | exact hp | apply List.mem_cons_of_mem)
    case k4 => exact ⟨_, rfl⟩)
end Mine
end

section
open PySem PySem.W PyProof.Rows
namespace Mine
open PySem.Calls
local macro_rules | `(tactic| walk_at "execs cons") => `(tactic| (k_here; (with_reducible refine gen_toks ?_); intro tk'))
local macro_rules | `(tactic| walk_at "execs nil") => `(tactic| (k_here; (with_reducible refine gen_toks ?_); intro tk'))
@[irreducible] def Stuck (P : Prop) : Prop := P
theorem Stuck.out {P : Prop} (h : Stuck P) : P := by unfold Stuck at h; exact h
theorem Stuck.mk {P : Prop} (h : P) : Stuck P := by unfold Stuck; exact h
/-- as LeafH, with more room -/
abbrev LeafH2 (w : World) (loose : List PySem.Str) (mean : ExcName → Option Value) (mg mb : PySem.Str → Option Value) (f : Addr) (news : List (Addr × Obj)) (vs : List Value) (R : Value → Heap → Prop) : Prop :=
  ∀ (dp un : Nat) (gd : Option (List Code)) (cn : PySem.Str) (cs : Scope) (a : Addr) (ccd : Value) (cl : List (PySem.Str × Addr)) (outer : List Env) (A₀ : Around) (base h₀ : Heap) (L : Addr) (m : PySem.Str → Option Value) (s : Shared) (Q E : Value → Shared → Prop),
    Below A₀ base outer h₀ → Fr h₀ L s.heap m → (MineTop.hd.heap_39 w.params).In h₀ → News h₀ L s.heap news → Top MineTop.hd.view_39 loose mean mg mb h₀ → cs.kind = .function →
      dp + 24 < recursionLimit → un + 200 < cLine →
      (∀ v h' tk', Keeps s.heap h' → R v h' → Q v { s with heap := h', toks := tk' }) →
      wpAny (model PySem.Challenge.pw_in0098_01 w) (ktrTop dp un gd cn cs L a ccd cl outer) (call (.ref f) vs) Q E s
theorem use_gm {w : World} {loose mean mg mb} {news : List (Addr × Obj)} {tp : Addr} {y mo d h mi se : Int} {t0 t1 t2 t3 t4 t5 : Tok} {vz : Value} {dp un : Nat} {gd : Option (List Code)} {cn : PySem.Str} {cs : Scope} {a : Addr} {ccd : Value} {cl : List (PySem.Str × Addr)} {outer : List Env} {A₀ : Around} {base h₀ : Heap} {L : Addr} {m : PySem.Str → Option Value} {s : Shared} {Q E : Value → Shared → Prop}
    (B : Below A₀ base outer h₀) (F : Fr h₀ L s.heap m) (X : (MineTop.hd.heap_39 w.params).In h₀) (N : News h₀ L s.heap news) (T : Top MineTop.hd.view_39 loose mean mg mb h₀) (hk : cs.kind = .function)
    (hm : (tp, tupOf [.int y t0, .int mo t1, .int d t2, .int h t3, .int mi t4, .int se t5, vz]) ∈ news)
    (hy : 1970 ≤ y ∧ y ≤ 9999) (hmo : 1 ≤ mo ∧ mo ≤ 12) (hd' : -1 ≤ d ∧ d ≤ 100) (hh : -1 ≤ h ∧ h ≤ 100) (hmi : 0 ≤ mi ∧ mi ≤ 100) (hse : 0 ≤ se ∧ se ≤ 100) (hd : dp + 12 < recursionLimit) (hu : un + 80 < cLine)
    (hret : ∀ t h' tk', Fr h₀ L h' m → News h₀ L h' news → Q (.int (gmZ d mo y h mi se) t) { s with heap := h', toks := tk' }) :
    wpAny (model PySem.Challenge.pw_in0098_01 w) (ktrTop dp un gd cn cs L a ccd cl outer) (call (.ref 69) [.ref tp]) Q E s :=
  (timegm_ct w tp y mo d h mi se t0 t1 t2 t3 t4 t5 vz hy hmo hd' hh hmi hse).drop (fun p hp => by rw [List.mem_singleton.mp hp]; exact hm) dp un gd cn cs a ccd cl outer A₀ base h₀ L m s Q E B F X N T hk hd hu fun v h' tk' k ⟨t, e⟩ => by
    subst e; exact hret t h' tk' (F.keeps k) (Mine.News.kept N k)
local macro_rules | `(tactic| walk_at "call ref") => `(tactic| (k_here; (with_reducible show wpAny _ _ (call (Value.ref 69) [Value.ref _]) _ _ _); k_dflt (refine' use_gm ?zB ?zF ?zX ?zN ?zT ?hk ?zm ?y1 ?y2 ?y3 ?y4 ?y5 ?y6 ?hd ?hu ?_); (case zB => k_asm); (case zF => k_asm); (case zX => k_asm); (case zN => k_asm); (case zT => k_asm); (case hk => rfl); (case zm => k_mem); (case y1 => omega); (case y2 => omega); (case y3 => omega); (case y4 => omega); (case y5 => omega); (case y6 => omega); (case hd => ktr_room); (case hu => ktr_units); intro t' h' tk' F' N'; (try k_sweep); (try dsimp only)))
local macro_rules | `(tactic| walk_at "subscriptTail Name Slice ref ref") => `(tactic| (k_here; (with_reducible show wpAny _ _ (subscriptTail _ (PySem.Expr.Slice none (some _) none _) (Value.ref _) (Value.ref _)) _ _ _); k_dflt (refine' slice_tuple_6 ?zF ?zN ?zm ?_ ?zs ?zt; (case zF => k_asm); (case zN => k_asm); (case zm => k_mem); (case zs => with_unfolding_all rfl); (case zt => kmk_pure); k_whole); intro D' h' F' N'; (try k_sweep); (try dsimp only)))
local macro_rules | `(tactic| walk_at "ENTER") => `(tactic| (refine' leaf_enter ?k1 ?k2 ?k3 ?k4 ?k5 ?kA ?kF ?kK ?k6 ?k7 ?k8 ?k9 ?kB ?_ ?c2 ?c3 ?c4 ?c5; (case kA => exact rfl); (case kF => exact rfl); (case kK => assumption); (case k1 => k_asm); (case k2 => k_asm); (case k3 => k_asm); (case k4 => k_asm); (case k5 => k_asm); (case k6 => k_is); (case k7 => k_is); (case k8 => (simp only [depth_under_make, depth_under_kw, depth_in1, depth_deeper, depth_caller]; omega)); (case k9 => exact BindsTo.of_eq rfl); (case c5 => decide); (case kB => exact locs rfl); (case c2 => exact rfl); (case c3 => exact rfl); (case c4 => exact rfl); intro g' L' h' F' N' B' X' T' HK; (try dsimp only); (try k_lift B'); (try k_fold)))

local macro_rules | `(tactic| walk_at "ite") => `(tactic| (k_here; k_openite; first
  | (refine ite_pos (by (simp only [decide_eq_true_eq, ge_iff_le, gt_iff_lt]; omega)) ?_)
  | (refine ite_neg (by (simp only [decide_eq_true_eq, ge_iff_le, gt_iff_lt]; omega)) ?_)))

theorem jud_t {d y h mi se z : Int} {t : Tok} (e : inR d y h mi se = true) : (inR d y h mi se = true → ∃ u, Value.int z t = .int z u) ∧ (inR d y h mi se = false → Value.int z t = .none) := ⟨fun _ => ⟨t, rfl⟩, fun f => by rw [e] at f; cases f⟩
theorem jud_f {d y h mi se z : Int} (e : inR d y h mi se = false) : (inR d y h mi se = true → ∃ u, Value.none = .int z u) ∧ (inR d y h mi se = false → Value.none = .none) := ⟨fun f => (by rw [e] at f; cases f), fun _ => rfl⟩

set_option maxHeartbeats 4000000 in
theorem utimegm_ct (w : World) {loose mean mg mb} (tp : Addr) (y mo d h mi se : Int) (t0 t1 t2 t3 t4 t5 : Tok) (vz : Value)
    (hy : 1969 ≤ y ∧ y ≤ 9999) (hmo : 1 ≤ mo ∧ mo ≤ 12) (hd' : -1 ≤ d ∧ d ≤ 100) (hh : -1 ≤ h ∧ h ≤ 100) (hmi : 0 ≤ mi ∧ mi ≤ 100) (hse : 0 ≤ se ∧ se ≤ 100) :
    LeafH2 w loose mean mg mb 76 [(tp, tupOf [.int y t0, .int mo t1, .int d t2, .int h t3, .int mi t4, .int se t5, vz])] [.ref tp] (fun v _ => (inR d y h mi se = true → ∃ t, v = .int (gmZ d mo y h mi se) t) ∧ (inR d y h mi se = false → v = .none)) := by
  intro dp un gd cn cs a ccd cl outer A₀ base h₀ L m s Q E B F X N T hk hd hu hret
  k_dflt (walk_at "ENTER")
  rename (∀ _ _ _, Fr _ _ _ _ → News _ _ _ _ → Keeps _ _) => HK
  replace HK := Stuck.mk HK
  replace hret := Stuck.mk hret
  k_steps
  all_goals (
    refine' hret.out _ _ _ (HK.out _ _ _ ?k1 (cb_drop ?k2 ?k3)) ?k4
    case k1 => k_asm
    case k2 => k_asm
    case k3 => intro p hp; repeat' (first | exact hp | apply List.mem_cons_of_mem)
    case k4 => first
      | exact jud_t (inR_t (by omega) (by omega) (by omega) (by omega) (by omega) (by omega) (by omega) (by omega) (by omega))
      | exact jud_f (inR_f (by omega)))
end Mine
end

section
open PySem PySem.W PyProof.Rows
namespace Mine
open PySem.Calls
set_option maxHeartbeats 4000000 in
theorem zone_ct (w : World) {loose mean mg mb} {news : List (Addr × Obj)} (z : PySem.Str) (t : Tok) (hz : z = PySem.Str.ofString "GMT" ∨ z = PySem.Str.ofString "UTC" ∨ z = PySem.Str.ofString "UT" ∨ z = PySem.Str.ofString "Z") :
    LeafCt w loose mean mg mb 95 news [.str z t] (fun v news' => news' = news ∧ ∃ u, v = .int 0 u) := by
  intro dp un gd cn cs a ccd cl outer A₀ base h₀ L m s Q E B F X N T hk hd hu hret
  refine wpAny_call ?_
  k_dflt cell_enter
  rcases hz with rfl | rfl | rfl | rfl
  all_goals (
    k_steps
    exact hret _ _ _ _ (by k_asm) (by k_asm) ⟨rfl, _, rfl⟩)
end Mine
end

section
open PySem PySem.W PyProof.Rows
namespace Mine
open Sem (wp)
open PySem.MeetsSeq
abbrev notInText (x : PySem.Str) : PySem.Str := reprText x ++ PySem.Str.ofString " is not in list"
set_option maxHeartbeats 2000000 in
theorem index_loop_none (l : Addr) (items : Array Value) (n : Nat) (x : PySem.Str) (u : Tok) (he : ∀ y, y ∈ items → EqGives y (.str x u) false)
    (upto : Int) (hz : (items.size : Int) < upto) (hq : (reprText x).length ≤ sizeLine) (hq' : (notInText x).length ≤ sizeLine) (k : Nat) :
    ∀ i : Nat, items.size - i = k → i ≤ items.size → Meets (Builtin.«list.index.loop» ⟨[.ref l, .str x u, rawInt i, rawInt upto], []⟩)
      (fun A R s => s.heap.get? l = some { cls := .type "list", dict := none, data := .seq items n, slots := #[] } ∧ HandledOk A s.heap ∧
        ∀ h' e tk tm, MadeX s.heap h' e "ValueError" (ctxOf A) [.str (notInText x) tm] → R (.error (.ref e)) { s with heap := h', toks := tk }) := by
  induction k with
  | zero =>
    intro i hk hij prog w A R s h
    obtain ⟨hp, g, d, tk, os⟩ := s; obtain ⟨hl, hA, h⟩ := h
    have hij' : i = items.size := by omega
    subst hij'
    wp_walk using wpAny_loadPart' hl
    have hi : (if ((items.size : Nat) : Int) < upto then items[((items.size : Nat) : Int).toNat]? else none) = none := by simp
    rw [hi]
    dsimp only
    refine wpAny_bind (wpAny_rule ?_)
    unfold Builtin.List.listRaiseStr
    refine wpAny_bind (wpAny_pyRepr_str ?_ hq)
    with_reducible refine wpAny_bind (wpAny_mkStr ?_ ?hzz)
    case hzz => with_reducible exact hq'
    refine wpAny_bind (wpAny_newExc_plain plainExc_ValueError fun h' e hm => ?_)
    refine raiseNew_made (h₀ := hp) hm hA fun h'' hx => ?_
    exact h _ _ _ _ hx
  | succ k ih =>
    intro i hk hij prog w A R s h
    obtain ⟨hp, g, d, tk, os⟩ := s; obtain ⟨hl, hA, h⟩ := h
    have hlt : i < items.size := by omega
    have hst : (i : Int) < upto := by omega
    wp_walk using wpAny_loadPart' hl
    have hi : (if (i : Int) < upto then items[((i : Nat) : Int).toNat]? else none) = some items[i] := by simp [hlt, hst]
    have hc : ((i : Int) + 1) = ((i + 1 : Nat) : Int) := by push_cast; rfl
    rw [hi]
    refine wpAny_bind (he _ (Array.getElem_mem hlt) prog w _ _ _ _ ?_)
    wp_walk
    rw [hc]
    exact ⟨plainId_quiet plain_index_loop _, codeAny_builtin entry_index_loop (by
      rw [Around.under_plainId plain_index_loop _]
      exact ih (i + 1) (by omega) (by omega) prog w A R _ ⟨hl, hA, h⟩)⟩

theorem list_index_none (l : Addr) (items : Array Value) (n : Nat) (x : PySem.Str) (u : Tok) (he : ∀ y, y ∈ items → EqGives y (.str x u) false)
    (hz : items.size < 1000000) (hq : (reprText x).length ≤ sizeLine) (hq' : (notInText x).length ≤ sizeLine) :
    Meets (Builtin.«list.index» ⟨[.ref l, .str x u], []⟩)
      (fun A R s => s.heap.get? l = some { cls := .type "list", dict := none, data := .seq items n, slots := #[] } ∧ HandledOk A s.heap ∧
        ∀ h' e tk tm, MadeX s.heap h' e "ValueError" (ctxOf A) [.str (notInText x) tm] → R (.error (.ref e)) { s with heap := h', toks := tk }) := by
  intro prog w A R s h
  obtain ⟨hp, g, d, tk, os⟩ := s; obtain ⟨hl, hA, h⟩ := h
  wp_walk using wpAny_loadPart' hl
  have a1 : ((fun i : Int => if i < 0 then max 0 (i + (items.size : Int)) else i) ((none : Option Int).getD 0)) = ((0 : Nat) : Int) := by simp
  have a2 : ((fun i : Int => if i < 0 then max 0 (i + (items.size : Int)) else i) ((none : Option Int).getD (2 ^ 63 - 1))) = 2 ^ 63 - 1 := by simp
  rw [a1, a2]
  exact ⟨plainId_quiet plain_index_loop _, codeAny_builtin entry_index_loop (by
    rw [Around.under_plainId plain_index_loop _]
    exact index_loop_none l items n x u he (2 ^ 63 - 1) (by omega) hq hq' _ 0 rfl (Nat.zero_le _) prog w A R _ ⟨hl, hA, h⟩)⟩
end Mine
end

section
open PySem PySem.W PyProof.Rows
namespace Mine
open Sem (wp)
open PySem.Calls

abbrev excObj (t T : Addr) (ctx : Value) : Obj := { cls := .type "ValueError", data := .fields #[.ref t, .ref T, ctx, .none, .bool false, .none] }
/-- an exception that was made in the frame and is held there; h: the heap ahead of it -/
structure HeldO (fs : List Addr) (h : Heap) (e t T : Addr) (ctx : Value) (args : List Value) (h' : Heap) : Prop where
  e_ : h'.get? e = some (excObj t T ctx)
  t_ : h'.get? t = some { cls := .type "tuple", data := .seq args.toArray }
  T_ : ∃ oT ts, h'.get? T = some oT ∧ oT.data = .fields ts ∧ 3 < ts.size
  eN : h.get? e = none
  tN : h.get? t = none
  TN : h.get? T = none
  Te : T ≠ e
  other : ∀ b o, h.get? b = some o → b ∉ fs → h'.get? b = some o
  frame : ∀ b o, h.get? b = some o → b ∈ fs → ∃ sl, h'.get? b = some { o with slots := sl }

section
variable {M : Model} {A : Around} {E : Value → Shared → Prop} {s : Shared}
theorem note_made {B h : Heap} {env : Env} {outer : List Env} {L e : Addr} {ctx : Value} {args : List Value} {Q : Unit → Shared → Prop}
    (hfr : A.frames = some (env :: outer)) (hl : h.FunFrames B (env :: outer)) (hf : env.frame = some L) (hx : MadeX h s.heap e "ValueError" ctx args)
    (hq : ∀ h' t T, HeldO ((env :: outer).filterMap (·.frame)) h e t T ctx args h' → Q () { s with heap := h' }) : wpAny M A (noteFrame (.ref e) env) Q E s := by
  obtain ⟨t, he, htn, hte, htt⟩ := hx.there
  have hl' : s.heap.FunFrames B (env :: outer) := hl.of_keeps fun b o hb _ => ⟨o, hx.keeps b o hb, rfl⟩
  have hene : e ∉ (env :: outer).filterMap (·.frame) := fun hm => by
    obtain ⟨_, o, ho, hnf⟩ := hl.mem hm
    rw [hx.new] at ho; cases ho
  have htne : t ∉ (env :: outer).filterMap (·.frame) := fun hm => by
    obtain ⟨_, o, ho, hnf⟩ := hl.mem hm
    rw [htn] at ho; cases ho
  unfold noteFrame
  simp only [hf]
  refine wpAny_bind (wpAny_field he rfl (x := .none) rfl ?_)
  rw [if_neg (by decide)]
  refine wpAny_bind (wpAny_frameOf_fun hfr hl' hf fun h₁ hs₁ => ?_)
  refine wpAny_bind (wpAny_entryPlaceOf fun pl hpl => ?_)
  unfold EntryCells.newEntry newFields
  refine wpAny_bind (wpAny_newObj_type ?_ (hpl.sizeOk5 _ _ _ _ _))
  have he₁ := (hs₁.2.1 e hene).trans he
  have ht₁ := (hs₁.2.1 t htne).trans htt
  have he₂ := Heap.get?_push_of_some (h := h₁) { cls := .type "traceback", dict := none, data := .fields ([Value.none, .ref L, .none, rawInt L, .none] ++ (if pl.isEmpty then List.replicate 6 Value.none else pl)).toArray } he₁
  refine wpAny_setField he₂ rfl (by simp) (hq _ t h₁.objs.size ?_)
  have hTe : h₁.objs.size ≠ e := Nat.ne_of_gt (Heap.lt_size he₁)
  have hT₃ := (Heap.get?_update_other (h₁.push { cls := .type "traceback", dict := none, data := .fields ([Value.none, .ref L, .none, rawInt L, .none] ++ (if pl.isEmpty then List.replicate 6 Value.none else pl)).toArray })
    (Obj.mapFields (·.setIfInBounds 1 (Value.ref h₁.objs.size))) (Ne.symm hTe)).trans (Heap.get?_push_size h₁ rfl)
  have keep : ∀ b o, b ≠ e → h₁.get? b = some o →
      ((h₁.push { cls := .type "traceback", dict := none, data := .fields ([Value.none, .ref L, .none, rawInt L, .none] ++ (if pl.isEmpty then List.replicate 6 Value.none else pl)).toArray }).update e (Obj.mapFields (·.setIfInBounds 1 (Value.ref h₁.objs.size)))).get? b = some o :=
    fun b o hbe hb => by
      rw [Heap.get?_update_other _ _ (Ne.symm hbe)]
      exact Heap.get?_push_of_some _ hb
  have hne : ∀ b o, h.get? b = some o → b ≠ e := fun b o hb q => by rw [q, hx.new] at hb; cases hb
  refine ⟨?_, ?_, ?_, hx.new, htn, ?_, hTe, fun b o hb hm => ?_, fun b o hb hm => ?_⟩
  · exact Heap.get?_update_self _ he₂ rfl
  · exact keep t _ hte ht₁
  · exact ⟨_, _, hT₃, rfl, by simp only [List.size_toArray, List.length_append, List.length_cons, List.length_nil]; omega⟩
  · cases q : h.get? h₁.objs.size with
    | none => rfl
    | some o =>
      have z := hx.keeps _ _ q
      obtain ⟨sl, z'⟩ := hs₁.2.2 _ _ z
      exact absurd (Heap.lt_size z') (Nat.lt_irrefl _)
  · exact keep b o (hne b o hb) ((hs₁.2.1 b hm).trans (hx.keeps b o hb))
  · obtain ⟨sl, hs⟩ := hs₁.2.2 b o (hx.keeps b o hb)
    exact ⟨sl, keep b _ (hne b o hb) hs⟩

theorem HeldO.land {fs : List Addr} {h : Heap} {e t T : Addr} {ctx : Value} {args : List Value} {Q : Unit → Shared → Prop} (H : HeldO fs h e t T ctx args s.heap)
    (hq : ∀ h', HeldO fs h e t T ctx args h' → Q () { s with heap := h' }) : wpAny M A (setFlight (.ref e) none) Q E s := by
  obtain ⟨oT, ts, hT, hTd, hTs⟩ := H.T_
  refine wpAny_setFlight_none H.e_ rfl rfl hT hTd hTs (hq _ ?_)
  have ot : ∀ b o, h.get? b = some o → T ≠ b := fun b o hb q => by rw [← q, H.TN] at hb; cases hb
  have htT : T ≠ t := fun q => by
    rw [q, H.t_] at hT
    cases hT
    cases hTd
  refine ⟨(Heap.get?_update_other _ _ H.Te).trans H.e_, (Heap.get?_update_other _ _ htT).trans H.t_, ⟨_, _, Heap.get?_update_self _ hT (Obj.isFreed_of_fields (Obj.data_mapFields hTd _)), Obj.data_mapFields hTd _, by simpa using hTs⟩, H.eN, H.tN, H.TN, H.Te,
    fun b o hb hm => (Heap.get?_update_other _ _ (ot b o hb)).trans (H.other b o hb hm), fun b o hb hm => ?_⟩
  obtain ⟨sl, z⟩ := H.frame b o hb hm
  exact ⟨sl, (Heap.get?_update_other _ _ (ot b o hb)).trans z⟩
end

section
variable {A₀ : Around} {base g h h' : Heap} {outer : List Env} {L a e t T : Addr} {m : PySem.Str → Option Value} {name : PySem.Str} {scope : Scope} {cd ctx : Value} {args : List Value} {news : List (Addr × Obj)}
theorem HeldO.ground (K : Below A₀ base outer g) (F : Fr g L h m) (N : News g L h news) (H : HeldO ((envOf name scope L a cd :: outer).filterMap (·.frame)) h e t T ctx args h') :
    ∃ g', KtsTurn (outer.filterMap (·.frame)) g g' ∧ Fr g' L h' m ∧ Below A₀ base outer g' ∧ News g' L h' ((e, excObj t T ctx) :: news) := by
  obtain ⟨TT, S⟩ := kts_turn_at (h := h') (fs := outer.filterMap (·.frame)) (g := g)
    (fun b hb => by
      obtain ⟨_, o, ho, _⟩ := K.frames.mem hb
      exact ⟨o, ho⟩)
    (fun b o e nm => H.other b o (F.keep b o e) (fun hm => by
      rcases kts_mem hm with z | z
      · rw [z, kts_self F] at e
        cases e
      · exact nm z))
    (fun b o e hm => H.frame b o (F.keep b o e) (by
      obtain ⟨env, he, hf⟩ := List.mem_filterMap.mp hm
      exact List.mem_filterMap.mpr ⟨env, List.mem_cons_of_mem _ he, hf⟩))
  have hLm : L ∈ (envOf name scope L a cd :: outer).filterMap (·.frame) := List.mem_filterMap.mpr ⟨_, List.Mem.head _, rfl⟩
  obtain ⟨oL, es, ep, hL, hLd, hLk⟩ := F.ns
  obtain ⟨sl, hL'⟩ := H.frame L oL hL hLm
  refine ⟨_, TT, ⟨⟨_, es, ep, hL', hLd, hLk⟩, S, by rw [TT.size]; exact F.above⟩, ⟨K.stack, fun b o e => TT.other b o (K.stays b o e) (fun hm => by
    rw [(K.frames.mem hm).1] at e
    cases e), K.frames.of_keeps fun b o e _ => ?_⟩, fun p hp => ?_⟩
  · obtain ⟨sl, hs⟩ := TT.up e
    exact ⟨_, hs, rfl⟩
  · rcases List.mem_cons.mp hp with rfl | hp
    · refine ⟨H.e_, fun q => ?_, TT.none_ _ (kts_none F.keep H.eN)⟩
      have q' : e = L := q
      have := H.eN
      rw [q', hL] at this
      cases this
    · refine ⟨H.other _ _ (N p hp).1 fun hm => ?_, (N p hp).2.1, TT.none_ _ (N p hp).2.2⟩
      rcases kts_mem hm with z | z
      · exact (N p hp).2.1 z
      · obtain ⟨_, o, ho, _⟩ := K.frames.mem z
        rw [(N p hp).2.2] at ho
        cases ho
end

section
variable {prog : Program} {w : World} {A : Around} {E : Value → Shared → Prop} {R : Result → Shared → Prop} {s : Shared} {env : Env}
theorem codeC_handlers_suite {e : Value} {b₀ : Stmt} {body : List Stmt} {pos : Pos}
    (h : wpAny (model prog w) A (setFlight e none) (fun _ s₁ => wpC (model prog w) A (execs (b₀ :: body) env) (fun f s₂ => R (.ok f) s₂) (notedBy (model prog w) A env fun x s₂ => R (.error x) s₂) s₁) (notedBy (model prog w) A env fun x s₁ => R (.error x) s₁) s) :
    codeC (model prog w) A (.handlers e [.ExceptHandler none none (b₀ :: body) pos] env) R s := by
  refine codeC_of_tree ?_
  show wpC _ A (do return Fin.done (← (handleWith e env [.ExceptHandler none none (b₀ :: body) pos]).onRaise (fun x => do noteFrame x env; theTreesLotGoes x))) _ _ s
  refine wpC_bind (wpC_noted ?_)
  unfold handleWith
  exact wpC_bind (wpC_standAt (wpC_bindL (wpAny_mono h (fun _ s₁ h₁ => wpC_mono h₁ (fun f s₂ h₂ => wpC_pure h₂) fun _ _ x => x) fun _ _ x => x)))

theorem wpC_handleBy_builtin {e : Addr} {X T : String} {t : PySem.Expr} {b₀ : Stmt} {suite : List Stmt} {pos : Pos} {rest : List ExceptHandler} {Q : Flow → Shared → Prop}
    (hexc : isSubtype (.type T) (.type "BaseException") = pure true) (hnt : isSubtype (.type ((Manifest.find? T).elim "type" fun x => x.metatype)) (.type "tuple") = pure false)
    (hsub : isSubtype (.type X) (.type T) = pure true)
    (h : wpAny (model prog w) (A.mark (some (.ref e))) (eval t env) (fun c s₁ => c = .type T ∧ s₁.TypeIs (.ref e) X ∧
      wpAny (model prog w) (A.mark (some (.ref e))) (setFlight (.ref e) none) (fun _ s₂ => wpC (model prog w) (A.mark (some (.ref e))) (execs (b₀ :: suite) env) Q (fun _ _ => False) s₂) (fun _ _ => False) s₁) (fun _ _ => False) s) :
    wpC (model prog w) A (handleBy (.ref e) env (.ExceptHandler (some t) none (b₀ :: suite) pos :: rest)) Q E s := by
  rw [handleBy]
  have hnb' : (some (Value.ref e) : Option Value) ≠ some byPass := fun x => by cases x
  refine wpC_bindL (wpAny_holding (wpAny_runOwn (codeAny_handlers_test (wpAny_mono h (fun c s₁ h₁ => ?_) fun _ _ x => x.elim)) hnb'))
  obtain ⟨rfl, hX, hk⟩ := h₁
  refine wpAny_excMatches_type hX hexc hnt hsub ?_
  refine wpC_bind (wpC_pure ?_)
  simp only [Bool.not_true, Bool.false_eq_true, if_false]
  refine wpC_bind (wpC_holding (wpC_runOwn (codeC_handlers_suite (wpAny_mono hk (fun _ s₂ h₂ => wpC_mono h₂ (fun f s₃ h₃ => ?_) fun _ _ x => x.elim) fun _ _ x => x.elim)) hnb'))
  exact wpC_pure h₃

theorem wpC_Try_except {body orelse : List Stmt} {h₀ : ExceptHandler} {hs : List ExceptHandler} {pos : Pos} {Q : Flow → Shared → Prop}
    (h : wpC (model prog w) A (execs body env) (fun f s₁ => match f with | .next => wpC (model prog w) A (execs orelse env) Q E s₁ | f => Q f s₁)
      (fun e s₁ => wpAny (model prog w) A (noteFrame e env) (fun _ s₂ => wpAny (model prog w) A (setFlight e none) (fun _ s₃ => wpC (model prog w) A (handleBy e env (h₀ :: hs)) Q E s₃) E s₂) E s₁) s) :
    wpC (model prog w) A (exec (.Try body (h₀ :: hs) orelse [] pos) env) Q E s := by
  rw [arm_exec_Try]
  exact wpC_bind (wpC_standAt (wpC_tryStmt_except h))

end
section
variable {prog : Program} {w : World} {A A₀ : Around} {E : Value → Shared → Prop} {s' : Shared} {base g h : Heap} {outer : List Env} {L a e : Addr} {m : PySem.Str → Option Value} {name : PySem.Str} {scope : Scope} {cd ctx : Value} {args : List Value} {news : List (Addr × Obj)}
  {b₀ : Stmt} {suite : List Stmt} {pos np : Pos} {rest : List ExceptHandler} {Q : Flow → Shared → Prop} {KF : Frag} {p : Program} {loose : List PySem.Str} {mean : ExcName → Option Value} {mg mb : PySem.Str → Option Value}
theorem excObj_type {t T : Addr} (he : s'.heap.get? e = some (excObj t T ctx)) : s'.TypeIs (.ref e) "ValueError" := ⟨_, he, rfl⟩
/-- an exception that was made in the frame is caught there, in the C-logic -/
theorem own_caughtC (hx : MadeX h s'.heap e "ValueError" ctx args) (F : Fr g L h m) (N : News g L h news) (K : Below A₀ base outer g) (hA : A.frames = some (envOf name scope L a cd :: outer)) (XB : KF.In base) (TB : Top p loose mean mg mb base)
    (D : KtsDicts (outer.filterMap (·.frame)) g) (hk : scope.kind = .function)
    (ex : nsIn KF mainGlobals "ValueError" = some none) (hvk : (envOf name scope L a cd).kindOf "ValueError" = some .globalImplicit)
    (k : ∀ h' g' t T, KtsTurn (outer.filterMap (·.frame)) g g' → Fr g' L h' m → News g' L h' ((e, excObj t T ctx) :: news) → Below A₀ base outer g' → KF.In g' → Top p loose mean mg mb g' → KtsDicts (outer.filterMap (·.frame)) g' →
      wpC (model prog w) (A.mark (some (.ref e))) (execs (b₀ :: suite) (envOf name scope L a cd)) Q (fun _ _ => False) { s' with heap := h' }) :
    wpAny (model prog w) A (noteFrame (.ref e) (envOf name scope L a cd))
      (fun _ s₂ => wpAny (model prog w) A (setFlight (.ref e) none) (fun _ s₃ =>
        wpC (model prog w) A (handleBy (.ref e) (envOf name scope L a cd) (.ExceptHandler (some (.Name "ValueError" np)) none (b₀ :: suite) pos :: rest)) Q E s₃) E s₂) E s' := by
  have K' := K.push (name := name) (a := a) (cd := cd) F hk
  refine note_made hA K'.frames rfl hx fun h₄ t T H₄ => ?_
  refine H₄.land fun h₅ H₅ => ?_
  obtain ⟨g₅, T₅, F₅, K₅, N₅⟩ := H₅.ground K F N
  refine wpC_handleBy_builtin (X := "ValueError") (T := "ValueError") (isSubtype_of_subB (by decide +kernel)) (isSubtype_of_subB (by decide +kernel)) (isSubtype_of_subB (by decide +kernel)) ?_
  refine name_B F₅ (XB.keeps K₅.stays) (topRead_of (TB.keeps K₅.stays)) ex (v := .type "ValueError") (by decide +kernel) (by decide) ⟨rfl, excObj_type H₅.e_, ?_⟩ hk hvk
  refine H₅.land fun h₆ H₆ => ?_
  obtain ⟨g₆, T₆, F₆, K₆, N₆⟩ := H₆.ground K F N
  exact k h₆ g₆ t T T₆ F₆ N₆ K₆ (XB.keeps K₆.stays) (TB.keeps K₆.stays) (D.turn T₆)
end
end Mine
end

section
open PySem PySem.W PyProof.Rows
namespace Mine
open Sem (wp)
open PySem.Calls PySem.NumText

structure TextNum (x : PySem.Str) (n : Int) : Prop where
  len : x.length ≤ 640
  is : PySem.intText? x = some n
structure TextBad (x : PySem.Str) : Prop where
  len : x.length ≤ 640
  is : PySem.intText? x = none
  all : ((numSeenOf x).length == (numTextOf x).length) = true
  q : (reprText x).length ≤ sizeLine
  q' : (noNumber x).length ≤ sizeLine
/-- what int() makes of a value: a number, or no number (then x is the text) -/
def IntArg (v : Value) (r : Option Int) (x : PySem.Str) : Prop := match r with
  | some n => (∃ t, v = .int n t) ∨ ∃ y u, v = .str y u ∧ TextNum y n
  | none => ∃ u, v = .str x u ∧ TextBad x

section
variable {prog : Program} {w : World} {A : Around} {E : Value → Shared → Prop} {s : Shared} {h₀ : Heap} {L a : Addr} {m : PySem.Str → Option Value} {news : List (Addr × Obj)} {name : PySem.Str} {scope : Scope} {cd : Value}
  {K : Frag} {p : Program} {loose : List PySem.Str} {mean : ExcName → Option Value} {mg mb : PySem.Str → Option Value}
theorem wpC_int_call {v : Value} {r : Option Int} {tx : PySem.Str} {Q : Value → Shared → Prop} (hi : IntArg v r tx) (hA : HandledOk A s.heap)
    (hok : ∀ n t tk, r = some n → Q (.int n t) { s with toks := tk })
    (hbad : r = none → ∀ h' e tk tm, MadeX s.heap h' e "ValueError" (ctxOf A) [.str (noNumber tx) tm] → E (.ref e) { s with heap := h', toks := tk }) :
    wpC (model prog w) A (call (.type "int") [v]) Q E s := by
  cases r with
  | some n =>
    rcases hi with ⟨t, rfl⟩ | ⟨y, u, rfl, hy⟩
    · exact wpC_of_any (call_int_int (hok n _ _ rfl))
    · exact wpC_of_any (KIN.call_text hy.is hy.len (hok n _ _ rfl))
  | none =>
    obtain ⟨u, rfl, hb⟩ := hi
    exact call_int_raises hb.len hb.is hb.all hb.q hb.q' hA (hbad rfl)

/-- x = int(y) -/
theorem wpC_asg_int {x y : PySem.Str} {v : Value} {r : Option Int} {tx : PySem.Str} {p1 p2 p3 p4 p5 : Pos} {Q : Flow → Shared → Prop}
    (F : Fr h₀ L s.heap m) (N : News h₀ L s.heap news) (X : K.In h₀) (T : Top p loose mean mg mb h₀) (hv : m y = some v) (hi : IntArg v r tx) (hA : HandledOk A s.heap)
    (hk : scope.kind = .function) (hlx : (envOf name scope L a cd).kindOf x = some .local) (hly : (envOf name scope L a cd).kindOf y = some .local) (hdy : (y == ("__debug__" : PySem.Str)) = false)
    (ex : nsIn K mainGlobals "int" = some none) (hint : (envOf name scope L a cd).kindOf "int" = some .globalImplicit)
    (hok : ∀ n h' t tk, r = some n → Fr h₀ L h' (fun z => if z = x then some (.int n t) else m z) → News h₀ L h' news → Q .next { s with heap := h', toks := tk })
    (hbad : r = none → ∀ h' e tk tm, MadeX s.heap h' e "ValueError" (ctxOf A) [.str (noNumber tx) tm] → E (.ref e) { s with heap := h', toks := tk })
    (hs : swapsWith (.Call (.Name "int" p2) [.Name y p3] [] p4) (some (.Name x p1)) p5.line (envOf name scope L a cd) = pure false := by rfl) :
    wpC (model prog w) A (exec (.Assign [.Name x p1] (.Call (.Name "int" p2) [.Name y p3] [] p4) p5) (envOf name scope L a cd)) Q E s := by
  refine wpC_Assign_Name (wpC_Call_Name rfl ?_) hs
  refine name_B F X (topRead_of T) ex (v := .type "int") (by decide +kernel) (by decide) ?_ hk hint
  refine wpC_callWith_type rfl ?_
  refine Calls.evalArgs_plain (spliced_cons ?_)
  refine ld F hv (spliced_nil ?_) hk hly hdy
  show wpC _ _ (call (.type "int") [v]) _ _ _
  refine wpC_int_call hi hA (fun n t tk hr => ?_) hbad
  exact stN (s := { s with toks := tk }) F N (fun h' F' N' => hok n h' t _ hr F' N') hk hlx
end

section
variable {A₀ A : Around} {base h₀ g g' : Heap} {outer : List Env} {L a : Addr} {m : PySem.Str → Option Value} {cn : PySem.Str} {cs : Scope} {ccd : Value} {cl : List (PySem.Str × Addr)} {news : List (Addr × Obj)}
/-- a callee's ground was turned: so is the caller's -/
theorem kts_back (B : Below A₀ base outer h₀) (F : Fr h₀ L g m) (T : KtsTurn ((envX cn cs L a ccd cl :: outer).filterMap (·.frame)) g g') :
    ∃ g₀, KtsTurn (outer.filterMap (·.frame)) h₀ g₀ ∧ Fr g₀ L g' m ∧ Below A₀ base outer g₀ := by
  have nL₀ : h₀.get? L = none := kts_self F
  have hmem : ∀ b, b ∈ (envX cn cs L a ccd cl :: outer).filterMap (·.frame) → b = L ∨ b ∈ outer.filterMap (·.frame) := fun b hm => by
    obtain ⟨env, he, hf⟩ := List.mem_filterMap.mp hm
    rcases List.mem_cons.mp he with rfl | he
    · exact .inl (Option.some.inj hf).symm
    · exact .inr (List.mem_filterMap.mpr ⟨env, he, hf⟩)
  obtain ⟨T₁, S₁⟩ := kts_turn_at (h := g') (fs := outer.filterMap (·.frame)) (g := h₀)
    (fun b hb => by
      obtain ⟨_, o, ho', _⟩ := B.frames.mem hb
      exact ⟨o, ho'⟩)
    (fun b o e nmem => T.other b o (F.keep b o e) (fun q => by
      rcases hmem _ q with z | z
      · rw [z, nL₀] at e
        cases e
      · exact nmem z))
    (fun b o e hm => T.up (F.keep b o e))
  obtain ⟨oL, es, ep, hL, hLd, hLk⟩ := F.ns
  obtain ⟨sl, hL'⟩ := T.up hL
  refine ⟨_, T₁, ⟨⟨_, es, ep, hL', hLd, hLk⟩, S₁, by rw [T₁.size]; exact F.above⟩, ⟨B.stack, fun b o e => T₁.other b o (B.stays b o e) (fun hm => by
    rw [(B.frames.mem hm).1] at e
    cases e), B.frames.of_keeps fun b o e _ => ?_⟩⟩
  obtain ⟨sl', hs'⟩ := T₁.up e
  exact ⟨_, hs', rfl⟩
theorem Fr.comp {h : Heap} {L' : Addr} {m' : PySem.Str → Option Value} (F : Fr h₀ L g m) (F' : Fr g L' h m') : Fr h₀ L h m := by
  obtain ⟨oL, es, ep, hL, hLd, hLk⟩ := F.ns
  exact ⟨⟨oL, es, ep, F'.keep _ _ hL, hLd, hLk⟩, fun b o e => F'.keep _ _ (F.keep b o e), F.above⟩
theorem News.under {h : Heap} {L' : Addr} {m' : PySem.Str → Option Value} (F : Fr h₀ L g m) (F' : Fr g L' h m') (N : News g L' h news) : News h₀ L h news := fun q hq => by
  refine ⟨(N q hq).1, fun z => ?_, kts_none F.keep (N q hq).2.2⟩
  obtain ⟨oL, es, ep, hL, hLd, hLk⟩ := F.ns
  have := (N q hq).2.2
  rw [z, hL] at this
  cases this
end
end Mine
end

section
open PySem PySem.W PyProof.Rows
namespace Mine
open Sem (wp)
open PySem.Calls PySem.NumText

section
variable {prog : Program} {w : World} {A₀ A : Around} {s : Shared} {base h₀ : Heap} {outer : List Env} {L a : Addr} {m : PySem.Str → Option Value} {cn : PySem.Str} {cs : Scope} {ccd : Value} {news : List (Addr × Obj)} {K : Frag} {p : Program} {loose : List PySem.Str} {mean : ExcName → Option Value} {mg mb : PySem.Str → Option Value}
  {R : Value → Shared → Prop} {E : Value → Shared → Prop} {name qual : PySem.Str} {params : Arguments} {body : List Stmt} {scope : Scope} {dV kV doc pm cdv ct oc : Value} {an od : Option Addr} {osl : Array (Option Value)} {f : Addr} {vs : List Value} {binds : List (PySem.Str × Value)}
/-- a def of the text is entered, in the C-logic -/
theorem s_enter (B : Below A₀ base outer h₀) (F : Fr h₀ L s.heap m) (X₀ : K.In h₀) (N : News h₀ L s.heap news) (T : Top p loose mean mg mb h₀) (D : KtsDicts (outer.filterMap (·.frame)) h₀)
    (hA : A.frames = some (envOf cn cs L a ccd :: outer)) (hck : cs.kind = .function)
    (ho : K.lookup f = some ⟨oc, od, .func (fnOf name qual params body scope dV kV doc pm an cdv ct), osl⟩) (hcd : codeIn K cdv qual = true) (hroom : A.depth < recursionLimit)
    (hbind : BindsTo s (fnOf name qual params body scope dV kV doc pm an cdv ct) ⟨vs, []⟩ binds) (hloc : ∀ y ∈ binds, scope.names.lookup y.1 = some .local)
    (h : ∀ g L' h₁, Fr h₀ L g m → Fr g L' h₁ (fun y => binds.reverse.lookup y) → News g L' h₁ news → Below A base (envOf cn cs L a ccd :: outer) g → K.In g → Top p loose mean mg mb g → KtsDicts ((envOf cn cs L a ccd :: outer).filterMap (·.frame)) g →
      wpC (model prog w) (A.deeper (envOf qual scope L' f cdv)) (execs body (envOf qual scope L' f cdv))
        (fun fl s' => R (match fl with | .ret v => v | _ => .none) s')
        (fun e s' => wpAny (model prog w) (A.deeper (envOf qual scope L' f cdv)) (leaving (envOf qual scope L' f cdv) e) (fun _ s'' => E e s'') (fun e' s'' => E e' s'') s')
        { s with heap := h₁, toks := s.toks + binds.length })
    (hco : scope.isCoroutine = false) (hgen : scope.isGenerator = false) (hk : scope.kind = .function)
    (hcell : ∀ x ∈ scope.names, x.2 ≠ .cell) : wpC (model prog w) A (call (.ref f) vs) R E s := by
  refine wpC_call ?_
  have X := X₀.keeps F.keep
  obtain ⟨oL, es, ep, hLg, hLd, hN, hNs, st, B₂⟩ := kts_enter B F N hA hck
  refine codeC_call_def (fd := fnOf name qual params body scope dV kV doc pm an cdv ct) (body := body) (binds := binds) hroom (X _ _ ho) rfl (T.nolimit.keeps F.keep) (codeRec_of X hcd) rfl hbind hcell hloc (fun h₁ hns hk₁ => ?_) hco hgen hk
  refine wpC_mono (h _ s.heap.objs.size h₁ ⟨hN _ hLg, st, F.above⟩ ⟨hns, fun b o e => hk₁ b o (of_hideAll _ e), Nat.le_of_eq (hideAll_size _ _)⟩
    (fun p hp => ⟨hk₁ _ _ (N p hp).1, Nat.ne_of_lt (Heap.lt_size (N p hp).1), hideAll_none _ (List.mem_map_of_mem hp)⟩) B₂ (X₀.keeps st) (T.keeps st) (fun b hb => ?_)) (fun fl s' hl => ?_) fun e s' y => y
  · rcases kts_mem hb with rfl | hb
    · exact ⟨oL, es, ep, hLg, hLd⟩
    · obtain ⟨o, es', n', ho', hd'⟩ := D b hb
      exact ⟨o, es', n', st b o ho', hd'⟩
  · exact hl
end

/-- where the walk is to stop -/
def HidD (P : Shared → Prop) (Rt : Value → Shared → Prop) (f : Flow) (s : Shared) : Prop := match f with
  | .next => P s
  | .ret v => Rt v s
  | _ => False
@[irreducible] def Hid2 (P : Shared → Prop) (Rt : Value → Shared → Prop) (f : Flow) (s : Shared) : Prop := HidD P Rt f s
theorem Hid2.next {P : Shared → Prop} {Rt : Value → Shared → Prop} {s : Shared} (h : P s) : Hid2 P Rt .next s := by unfold Hid2; exact h
theorem Hid2.ret {P : Shared → Prop} {Rt : Value → Shared → Prop} {v : Value} {s : Shared} (h : Rt v s) : Hid2 P Rt (.ret v) s := by unfold Hid2; exact h
theorem Hid2.out {P : Shared → Prop} {Rt : Value → Shared → Prop} {f : Flow} {s : Shared} (h : Hid2 P Rt f s) : HidD P Rt f s := by unfold Hid2 at h; exact h
theorem wpC_cut2 {M : Model} {A : Around} {E : Value → Shared → Prop} {env : Env} {s : Shared} {Q : Flow → Shared → Prop} (P : Shared → Prop) (Rt : Value → Shared → Prop) (n : Nat) {l : List Stmt}
    (h : wpC M A (execs (l.take n) env) (Hid2 P Rt) E s) (k : ∀ s', P s' → wpC M A (execs (l.drop n) env) Q E s') (kr : ∀ v s', Rt v s' → Q (.ret v) s') : wpC M A (execs l env) Q E s := by
  rw [← List.take_append_drop n l, execs_append_eq]
  refine wpC_bind (wpC_mono h (fun f s' hf => ?_) fun _ _ x => x)
  have hf' := hf.out
  cases f with
  | next => exact k s' hf'
  | ret v => exact wpC_pure (kr v s' hf')
  | _ => exact hf'.elim
theorem Fr.congr {h₀ h : Heap} {L : Addr} {m m' : PySem.Str → Option Value} (F : Fr h₀ L h m) (e : ∀ z, m z = m' z) : Fr h₀ L h m' := by
  rw [← funext e]; exact F

/-- the names of _str2time -/
abbrev mp8 (d mo y h mi se tz : Value) (im : Option Value) : PySem.Str → Option Value := fun z =>
  if z = PySem.Str.ofString "day" then some d else if z = PySem.Str.ofString "mon" then some mo else if z = PySem.Str.ofString "yr" then some y else if z = PySem.Str.ofString "hr" then some h
  else if z = PySem.Str.ofString "min" then some mi else if z = PySem.Str.ofString "sec" then some se else if z = PySem.Str.ofString "tz" then some tz else if z = PySem.Str.ofString "imon" then im else none
section
variable (d mo y h mi se tz v : Value) (im : Option Value) (z : PySem.Str)
theorem mp8_yr : (if z = PySem.Str.ofString "yr" then some v else mp8 d mo y h mi se tz im z) = mp8 d mo v h mi se tz im z := by
  by_cases q : z = PySem.Str.ofString "yr"
  · subst q; rfl
  · simp only [mp8, q, if_false]
theorem mp8_day : (if z = PySem.Str.ofString "day" then some v else mp8 d mo y h mi se tz im z) = mp8 v mo y h mi se tz im z := by
  by_cases q : z = PySem.Str.ofString "day"
  · subst q; rfl
  · simp only [mp8, q, if_false]
theorem mp8_mon : (if z = PySem.Str.ofString "mon" then some v else mp8 d mo y h mi se tz im z) = mp8 d v y h mi se tz im z := by
  by_cases q : z = PySem.Str.ofString "mon"
  · subst q; rfl
  · simp only [mp8, q, if_false]
theorem mp8_hr : (if z = PySem.Str.ofString "hr" then some v else mp8 d mo y h mi se tz im z) = mp8 d mo y v mi se tz im z := by
  by_cases q : z = PySem.Str.ofString "hr"
  · subst q; rfl
  · simp only [mp8, q, if_false]
theorem mp8_min : (if z = PySem.Str.ofString "min" then some v else mp8 d mo y h mi se tz im z) = mp8 d mo y h v se tz im z := by
  by_cases q : z = PySem.Str.ofString "min"
  · subst q; rfl
  · simp only [mp8, q, if_false]
theorem mp8_sec : (if z = PySem.Str.ofString "sec" then some v else mp8 d mo y h mi se tz im z) = mp8 d mo y h mi v tz im z := by
  by_cases q : z = PySem.Str.ofString "sec"
  · subst q; rfl
  · simp only [mp8, q, if_false]
theorem mp8_imon : (if z = PySem.Str.ofString "imon" then some v else mp8 d mo y h mi se tz im z) = mp8 d mo y h mi se tz (some v) z := by
  by_cases q : z = PySem.Str.ofString "imon"
  · subst q; rfl
  · simp only [mp8, q, if_false]
theorem mp8_start : List.lookup z [(PySem.Str.ofString "tz", tz), (PySem.Str.ofString "sec", se), (PySem.Str.ofString "min", mi), (PySem.Str.ofString "hr", h), (PySem.Str.ofString "yr", y), (PySem.Str.ofString "mon", mo), (PySem.Str.ofString "day", d)] = mp8 d mo y h mi se tz none z := by
  by_cases q1 : z = PySem.Str.ofString "day"
  · subst q1; rfl
  by_cases q2 : z = PySem.Str.ofString "mon"
  · subst q2; rfl
  by_cases q3 : z = PySem.Str.ofString "yr"
  · subst q3; rfl
  by_cases q4 : z = PySem.Str.ofString "hr"
  · subst q4; rfl
  by_cases q5 : z = PySem.Str.ofString "min"
  · subst q5; rfl
  by_cases q6 : z = PySem.Str.ofString "sec"
  · subst q6; rfl
  by_cases q7 : z = PySem.Str.ofString "tz"
  · subst q7; rfl
  by_cases q8 : z = PySem.Str.ofString "imon"
  · subst q8; rfl
  have n : ∀ x : PySem.Str, ¬ z = x → (z == x) = false := fun x h => by simpa using h
  simp only [List.lookup, n _ q1, n _ q2, n _ q3, n _ q4, n _ q5, n _ q6, n _ q7, mp8, q1, q2, q3, q4, q5, q6, q7, q8, if_false]
end
/-- where a turn of _str2time stands: the ground may have been turned by an exception that was caught -/
structure StS (w : World) (loose : List PySem.Str) (mean : ExcName → Option Value) (mg mb : PySem.Str → Option Value) (A : Around) (base gE : Heap) (outer : List Env) (L : Addr) (news : List (Addr × Obj)) (m : PySem.Str → Option Value) (h : Heap) : Prop where
  ex : ∃ g, KtsTurn (outer.filterMap (·.frame)) gE g ∧ Fr g L h m ∧ News g L h news ∧ Below A base outer g ∧ (MineTop.hd.heap_39 w.params).In g ∧ Top MineTop.hd.view_39 loose mean mg mb g ∧ KtsDicts (outer.filterMap (·.frame)) g

inductive Out
  | none
  | sec (z : Int)
  | bad (x : PySem.Str)
def OutV (o : Out) (v : Value) : Prop := match o with
  | .none => v = .none
  | .sec z => ∃ t, v = .int z t
  | .bad _ => False
abbrev Num := Option Int × PySem.Str
/-- what is judged, in which order -/
def judged (G : Int → Int → Int → Int → Int → Int → Int) (Y : Num) (M : Option Int) (D H I C : Num) : Out := match Y.1 with
  | none => .bad Y.2
  | some y => if y > 9999 then .none else match M with
    | none => .none
    | some mo => match D.1 with
      | none => .bad D.2
      | some d => match H.1 with
        | none => .bad H.2
        | some h => match I.1 with
          | none => .bad I.2
          | some mi => match C.1 with
            | none => .bad C.2
            | some se => if inR d y h mi se = true then .sec (G d mo y h mi se) else .none
end Mine
end

section
open PySem PySem.W PyProof.Rows
namespace Mine
open Sem (wp)
open PySem.Calls PySem.NumText PySem.MeetsSeq
/-- the twelve names -/
def namesL : List PySem.Str := ["jan", "feb", "mar", "apr", "may", "jun", "jul", "aug", "sep", "oct", "nov", "dec"].map PySem.Str.ofString
def txtOf (v : Value) : Option PySem.Str := match v with | .str x _ => some x | _ => none
theorem names_nodup : ∀ i j : Nat, i < j → j < 12 → namesL[i]? ≠ namesL[j]? := by
  intro i j hi hj
  exact (by decide : ∀ j : Nat, j < 12 → ∀ i : Nat, i < j → namesL[i]? ≠ namesL[j]?) j hj i hi
section
variable {prog : Program} {w : World} {A : Around} {E : Value → Shared → Prop} {s : Shared} {Q : Value → Shared → Prop} {l : Addr} {items : Array Value} {n : Nat} {x : PySem.Str} {u : Tok}
theorem txt_eq (hi : items.toList.map txtOf = namesL.map some) {y : Value} (hy : y ∈ items) : ∃ a t, y = .str a t := by
  have : txtOf y ∈ items.toList.map txtOf := List.mem_map_of_mem (by simpa using hy)
  rw [hi] at this
  obtain ⟨a, _, e⟩ := List.mem_map.mp this
  cases y <;> simp [txtOf] at e
  exact ⟨_, _, rfl⟩
def isT (x : PySem.Str) (y : Value) : Bool := match y with | .str a _ => a == x | _ => false
theorem isT_gives (hi : items.toList.map txtOf = namesL.map some) (y : Value) (hy : y ∈ items) : EqGives y (.str x u) (isT x y) := by
  obtain ⟨a, t, rfl⟩ := txt_eq hi hy
  exact eqGives_str a x t u
theorem item_txt (hi : items.toList.map txtOf = namesL.map some) (k : Nat) (hk : k < items.size) : ∃ a t, items[k] = .str a t ∧ namesL[k]? = some a := by
  obtain ⟨a, t, e⟩ := txt_eq hi (Array.getElem_mem hk)
  refine ⟨a, t, e, ?_⟩
  have z : (items.toList.map txtOf)[k]? = (namesL.map some)[k]? := by rw [hi]
  rw [List.getElem?_map, List.getElem?_map, Array.getElem?_toList, Array.getElem?_eq_getElem hk, e] at z
  cases q : namesL[k]? with
  | none => rw [q] at z; cases z
  | some b => rw [q] at z; simp [txtOf] at z; rw [z]
theorem items_size (hi : items.toList.map txtOf = namesL.map some) : items.size = 12 := by
  have : (items.toList.map txtOf).length = (namesL.map some).length := by rw [hi]
  simpa [namesL] using this
/-- a name that is there -/
theorem idx_found {k : Nat} (hl : s.heap.get? l = some (listOf items n)) (hi : items.toList.map txtOf = namesL.map some) (hk : namesL[k]? = some x)
    (h : ∀ t, Q (.int k t) { s with toks := s.toks + 1 }) : wpAny (model prog w) A (call (.builtin "list.index") [.ref l, .str x u]) Q E s := by
  have hz := items_size hi
  have hk' : k < items.size := by
    rw [hz]
    exact (List.getElem?_eq_some_iff.mp hk).1
  refine call_meets PySem.F.slot_list_index ⟨_, hl, rfl⟩ PySem.F.entry_list_index (PySem.F.args_list_index_2 _ _)
    (MeetsSeq.list_index l items n (.str x u) (isT x) (isT_gives hi) k hk' (by omega) ?_ fun i hi' hlt => ?_) ⟨hl, h _⟩
  · obtain ⟨a, t, e, q⟩ := item_txt hi k hk'
    rw [hk] at q
    rw [e]
    simp [isT, (Option.some.inj q)]
  · obtain ⟨a, t, e, q⟩ := item_txt hi i hi'
    rw [e]
    have : a ≠ x := fun z => names_nodup i k hlt (by omega) (by rw [q, hk, z])
    simpa [isT] using this
/-- a name that is not there -/
theorem idx_none (hl : s.heap.get? l = some (listOf items n)) (hi : items.toList.map txtOf = namesL.map some) (hk : x ∉ namesL) (hq : (reprText x).length ≤ sizeLine) (hq' : (notInText x).length ≤ sizeLine) (hA : HandledOk A s.heap)
    (h : ∀ h' e tk tm, MadeX s.heap h' e "ValueError" (ctxOf A) [.str (notInText x) tm] → E (.ref e) { s with heap := h', toks := tk }) : wpAny (model prog w) A (call (.builtin "list.index") [.ref l, .str x u]) Q E s := by
  have hz := items_size hi
  refine call_meets PySem.F.slot_list_index ⟨_, hl, rfl⟩ PySem.F.entry_list_index (PySem.F.args_list_index_2 _ _)
    (list_index_none l items n x u (fun y hy => ?_) (by omega) hq hq') ⟨hl, hA, h⟩
  have := isT_gives (x := x) (u := u) hi y hy
  obtain ⟨i, hi', rfl⟩ := Array.mem_iff_getElem.mp hy
  obtain ⟨a, t, e, q⟩ := item_txt hi i hi'
  rw [e] at this ⊢
  have ne : a ≠ x := fun z => hk (by rw [← z]; exact List.mem_of_getElem? q)
  have : isT x (.str a t) = false := by simpa [isT] using ne
  rw [← this]
  assumption
end
/-- what the month's text comes to -/
inductive MonArg : Value → Option Int → Prop
  | named (x : PySem.Str) (u : Tok) (k : Nat) : x.length ≤ 100 → namesL[k]? = some (Txt.lower x) → MonArg (.str x u) (some ((k : Int) + 1))
  | num (x : PySem.Str) (u : Tok) (n : Int) : x.length ≤ 100 → Txt.lower x ∉ namesL → (reprText (Txt.lower x)).length ≤ sizeLine → (notInText (Txt.lower x)).length ≤ sizeLine → TextNum x n → 1 ≤ n ∧ n ≤ 12 → MonArg (.str x u) (some n)
  | out (x : PySem.Str) (u : Tok) (n : Int) : x.length ≤ 100 → Txt.lower x ∉ namesL → (reprText (Txt.lower x)).length ≤ sizeLine → (notInText (Txt.lower x)).length ≤ sizeLine → TextNum x n → n < 1 ∨ 12 < n → -1000 ≤ n ∧ n ≤ 1000 → MonArg (.str x u) none
  | bad (x : PySem.Str) (u : Tok) : x.length ≤ 100 → Txt.lower x ∉ namesL → (reprText (Txt.lower x)).length ≤ sizeLine → (notInText (Txt.lower x)).length ≤ sizeLine → TextBad x → MonArg (.str x u) none
end Mine
end

section
open PySem PySem.W PyProof.Rows
namespace Mine
open Sem (wp)
open PySem.Calls PySem.NumText PySem.MeetsSeq
local macro_rules | `(tactic| walk_at "execs cons") => `(tactic| (k_here; (with_reducible refine gen_toks ?_); intro tk'))
local macro_rules | `(tactic| walk_at "execs nil") => `(tactic| (k_here; (with_reducible refine gen_toks ?_); intro tk'))
section
variable {prog : Program} {w : World} {A : Around} {E : Value → Shared → Prop} {s : Shared} {Q : Value → Shared → Prop} {l : Addr} {items : Array Value} {n : Nat} {x : PySem.Str} {u : Tok} {h₀ : Heap} {L : Addr} {m : PySem.Str → Option Value} {K : Frag}
theorem idx_foundK {k : Nat} (F : Fr h₀ L s.heap m) (X : K.In h₀) (ho : K.lookup l = some (listOf items n)) (hi : items.toList.map txtOf = namesL.map some) (hk : namesL[k]? = some x)
    (h : ∀ t, Q (.int k t) { s with toks := s.toks + 1 }) : wpAny (model prog w) A (call (.builtin "list.index") [.ref l, .str x u]) Q E s := idx_found (F.keep _ _ (X _ _ ho)) hi hk h
theorem idx_noneK (F : Fr h₀ L s.heap m) (X : K.In h₀) (ho : K.lookup l = some (listOf items n)) (hi : items.toList.map txtOf = namesL.map some) (hk : x ∉ namesL) (hq : (reprText x).length ≤ sizeLine) (hq' : (notInText x).length ≤ sizeLine) (hA : HandledOk A s.heap)
    (h : ∀ h' e tk tm, MadeX s.heap h' e "ValueError" (ctxOf A) [.str (notInText x) tm] → E (.ref e) { s with heap := h', toks := tk }) : wpAny (model prog w) A (call (.builtin "list.index") [.ref l, .str x u]) Q E s := idx_none (F.keep _ _ (X _ _ ho)) hi hk hq hq' hA h
theorem index_methodK {pl : Sem Bool} {Q : Value × List Value → Shared → Prop} (F : Fr h₀ L s.heap m) (X : K.In h₀) (ho : K.lookup l = some (listOf items n)) (h : Q (.builtin "list.index", [.ref l]) s) :
    wpAny (model prog w) A (getMethod (.ref l) (PySem.Str.ofString "index") pl) Q E s :=
  getMethod_builtin ⟨_, F.keep _ _ (X _ _ ho), rfl⟩ PySem.F.plainAttrs_list PySem.F.slot_list_index PySem.F.type_list_index (fun a e => by cases e; exact ⟨_, F.keep _ _ (X _ _ ho), rfl⟩) h
end
local macro_rules | `(tactic| walk_at "getMethod ref") => `(tactic| (k_here; (with_reducible show wpAny _ _ (getMethod (Value.ref _) (PySem.Str.ofString "index") _) _ _ _); k_dflt (refine' index_methodK ?zF ?zX ?ho ?_); (case zF => k_asm); (case zX => k_asm); (case ho => k_is)))
local macro_rules | `(tactic| walk_at "call builtin:str.lower") => `(tactic| (k_here; (with_reducible show wpAny _ _ (call (Value.builtin "str.lower") [Value.str _ _]) _ _ _); (refine SCL.lower (Nat.le_trans (by assumption) (by decide)) ?_); intro _; (try dsimp only)))
local macro_rules | `(tactic| walk_at "call builtin:list.index") => `(tactic| (k_here; (with_reducible show wpAny _ _ (call (Value.builtin "list.index") [Value.ref _, Value.str _ _]) _ _ _); k_dflt (refine' idx_foundK ?zF ?zX ?ho ?hi ?hk ?_); (case zF => k_asm); (case zX => k_asm); (case ho => k_is); (case hi => rfl); (case hk => with_reducible assumption); intro t'; (try dsimp only)))
local macro_rules | `(tactic| walk_at "call builtin:list.index") => `(tactic| (k_here; (with_reducible show wpAny _ _ (call (Value.builtin "list.index") [Value.ref _, Value.str _ _]) _ _ _); k_dflt (refine' idx_noneK ?zF ?zX ?ho ?hi ?hk ?hq1 ?hq2 ?hA ?_); (case zF => k_asm); (case zX => k_asm); (case ho => k_is); (case hi => rfl); (case hk => with_reducible assumption); (case hq1 => with_reducible assumption); (case hq2 => with_reducible assumption); (case hA => intro v q; cases q); intro h' e' tk' tm' hx'; (refine Stuck.out ?_)))
theorem handledOk_mark {A : Around} {e t T : Addr} {h : Heap} (he : h.get? e = some (excObj t T .none)) : HandledOk (A.mark (some (.ref e))) h := fun v q => by cases q; exact ⟨_, _, _, rfl, he, rfl, rfl⟩
theorem intArg_text {x : PySem.Str} {u : Tok} {n : Int} (h : TextNum x n) : IntArg (.str x u) (some n) x := .inr ⟨x, u, rfl, h⟩
theorem intArg_bad {x : PySem.Str} {u : Tok} (h : TextBad x) : IntArg (.str x u) none x := ⟨u, rfl, h⟩
section
variable {w : World} {loose : List PySem.Str} {mean : ExcName → Option Value} {mg mb : PySem.Str → Option Value} {news : List (Addr × Obj)} {tp : Addr} {y mo d h mi se : Int} {t0 t1 t2 t3 t4 t5 : Tok} {vz : Value} {dp un : Nat} {gd : Option (List Code)} {cn : PySem.Str} {cs : Scope} {a : Addr} {ccd : Value} {cl : List (PySem.Str × Addr)} {outer : List Env} {A₀ : Around} {base h₀ : Heap} {L : Addr} {m : PySem.Str → Option Value} {s : Shared} {Q E : Value → Shared → Prop}
theorem use_tgT (B : Below A₀ base outer h₀) (F : Fr h₀ L s.heap m) (X : (MineTop.hd.heap_39 w.params).In h₀) (N : News h₀ L s.heap news) (T : Top MineTop.hd.view_39 loose mean mg mb h₀) (hk : cs.kind = .function)
    (hm : (tp, tupOf [.int y t0, .int mo t1, .int d t2, .int h t3, .int mi t4, .int se t5, vz]) ∈ news) (hin : inR d y h mi se = true)
    (hy : 1969 ≤ y ∧ y ≤ 9999) (hmo : 1 ≤ mo ∧ mo ≤ 12) (hd' : -1 ≤ d ∧ d ≤ 100) (hh : -1 ≤ h ∧ h ≤ 100) (hmi : 0 ≤ mi ∧ mi ≤ 100) (hse : 0 ≤ se ∧ se ≤ 100) (hd : dp + 24 < recursionLimit) (hu : un + 200 < cLine)
    (hret : ∀ t h' tk', Fr h₀ L h' m → News h₀ L h' news → Q (.int (gmZ d mo y h mi se) t) { s with heap := h', toks := tk' }) :
    wpAny (model PySem.Challenge.pw_in0098_01 w) (ktrTop dp un gd cn cs L a ccd cl outer) (call (.ref 76) [.ref tp]) Q E s :=
  utimegm_ct w tp y mo d h mi se t0 t1 t2 t3 t4 t5 vz hy hmo hd' hh hmi hse dp un gd cn cs a ccd cl outer A₀ base h₀ L m s Q E B F X (fun p hp => N p (by rw [List.mem_singleton.mp hp]; exact hm)) T hk hd hu fun v h' tk' k r => by
    obtain ⟨t, e⟩ := r.1 hin
    subst e; exact hret t h' tk' (F.keeps k) (Mine.News.kept N k)
theorem use_tgF (B : Below A₀ base outer h₀) (F : Fr h₀ L s.heap m) (X : (MineTop.hd.heap_39 w.params).In h₀) (N : News h₀ L s.heap news) (T : Top MineTop.hd.view_39 loose mean mg mb h₀) (hk : cs.kind = .function)
    (hm : (tp, tupOf [.int y t0, .int mo t1, .int d t2, .int h t3, .int mi t4, .int se t5, vz]) ∈ news) (hin : inR d y h mi se = false)
    (hy : 1969 ≤ y ∧ y ≤ 9999) (hmo : 1 ≤ mo ∧ mo ≤ 12) (hd' : -1 ≤ d ∧ d ≤ 100) (hh : -1 ≤ h ∧ h ≤ 100) (hmi : 0 ≤ mi ∧ mi ≤ 100) (hse : 0 ≤ se ∧ se ≤ 100) (hd : dp + 24 < recursionLimit) (hu : un + 200 < cLine)
    (hret : ∀ h' tk', Fr h₀ L h' m → News h₀ L h' news → Q .none { s with heap := h', toks := tk' }) :
    wpAny (model PySem.Challenge.pw_in0098_01 w) (ktrTop dp un gd cn cs L a ccd cl outer) (call (.ref 76) [.ref tp]) Q E s :=
  utimegm_ct w tp y mo d h mi se t0 t1 t2 t3 t4 t5 vz hy hmo hd' hh hmi hse dp un gd cn cs a ccd cl outer A₀ base h₀ L m s Q E B F X (fun p hp => N p (by rw [List.mem_singleton.mp hp]; exact hm)) T hk hd hu fun v h' tk' k r => by
    have e := r.2 hin
    subst e; exact hret h' tk' (F.keeps k) (Mine.News.kept N k)
theorem use_zone {z : PySem.Str} {t : Tok} (B : Below A₀ base outer h₀) (F : Fr h₀ L s.heap m) (X : (MineTop.hd.heap_39 w.params).In h₀) (N : News h₀ L s.heap news) (T : Top MineTop.hd.view_39 loose mean mg mb h₀) (hk : cs.kind = .function)
    (hz : z = PySem.Str.ofString "GMT" ∨ z = PySem.Str.ofString "UTC" ∨ z = PySem.Str.ofString "UT" ∨ z = PySem.Str.ofString "Z") (hd : dp + 4 < recursionLimit) (hu : un + 20 < cLine)
    (hret : ∀ t h' tk', Fr h₀ L h' m → News h₀ L h' news → Q (.int 0 t) { s with heap := h', toks := tk' }) :
    wpAny (model PySem.Challenge.pw_in0098_01 w) (ktrTop dp un gd cn cs L a ccd cl outer) (call (.ref 95) [.str z t]) Q E s :=
  zone_ct w z t hz dp un gd cn cs a ccd cl outer A₀ base h₀ L m s Q E B F X N T hk hd hu fun v news' h' tk' F' N' ⟨e, u, ev⟩ => by subst e ev; exact hret u h' tk' F' N'
end
local macro_rules | `(tactic| walk_at "call ref") => `(tactic| (k_here; (with_reducible show wpAny _ _ (call (Value.ref 76) [Value.ref _]) _ _ _); k_dflt (refine' use_tgT ?zB ?zF ?zX ?zN ?zT ?hk ?zm ?hin ?y1 ?y2 ?y3 ?y4 ?y5 ?y6 ?hd ?hu ?_); (case zB => k_asm); (case zF => k_asm); (case zX => k_asm); (case zN => k_asm); (case zT => k_asm); (case hk => rfl); (case zm => k_mem); (case hin => with_reducible assumption); (case y1 => omega); (case y2 => omega); (case y3 => omega); (case y4 => omega); (case y5 => omega); (case y6 => omega); (case hd => ktr_room); (case hu => ktr_units); intro t' h' tk' F' N'; (try k_sweep); (try dsimp only)))
local macro_rules | `(tactic| walk_at "call ref") => `(tactic| (k_here; (with_reducible show wpAny _ _ (call (Value.ref 76) [Value.ref _]) _ _ _); k_dflt (refine' use_tgF ?zB ?zF ?zX ?zN ?zT ?hk ?zm ?hin ?y1 ?y2 ?y3 ?y4 ?y5 ?y6 ?hd ?hu ?_); (case zB => k_asm); (case zF => k_asm); (case zX => k_asm); (case zN => k_asm); (case zT => k_asm); (case hk => rfl); (case zm => k_mem); (case hin => with_reducible assumption); (case y1 => omega); (case y2 => omega); (case y3 => omega); (case y4 => omega); (case y5 => omega); (case y6 => omega); (case hd => ktr_room); (case hu => ktr_units); intro h' tk' F' N'; (try k_sweep); (try dsimp only)))
local macro_rules | `(tactic| walk_at "call ref") => `(tactic| (k_here; (with_reducible show wpAny _ _ (call (Value.ref 95) [Value.str _ _]) _ _ _); k_dflt (refine' use_zone ?zB ?zF ?zX ?zN ?zT ?hk ?hz ?hd ?hu ?_); (case zB => k_asm); (case zF => k_asm); (case zX => k_asm); (case zN => k_asm); (case zT => k_asm); (case hk => rfl); (case hz => first | with_reducible assumption | exact .inr (.inl rfl)); (case hd => ktr_room); (case hu => ktr_units); intro t' h' tk' F' N'; (try k_sweep); (try dsimp only)))
local macro_rules | `(tactic| walk_at "call builtin:str.upper") => `(tactic| (k_here; (with_reducible show wpAny _ _ (call (Value.builtin "str.upper") [Value.str _ _]) _ _ _); (refine SCL.upper (Nat.le_trans (by with_reducible assumption) (by decide)) ?_); intro _; (try dsimp only)))
theorem val_sub0 {z : Int} {t : Tok} : OutV (.sec z) (.int (z - 0) t) := ⟨t, by rw [Int.sub_zero]⟩
theorem clock0 {N : Num} {t : Tok} (e : N.1 = some 0) : IntArg (.int 0 t) N.1 N.2 := by rw [e]; exact .inl ⟨t, rfl⟩
theorem monArg_bound {v : Value} {mo : Int} (h : MonArg v (some mo)) : 1 ≤ mo ∧ mo ≤ 12 := by
  generalize e : some mo = M at h
  cases h with
  | named x u k hx hk =>
    have : k < 12 := (List.getElem?_eq_some_iff.mp hk).1
    cases e
    omega
  | num x u n _ _ _ _ _ hb => cases e; exact hb
  | out => cases e
  | bad => cases e
section
variable {G : Int → Int → Int → Int → Int → Int → Int} {y mo d h mi se : Int} {x : PySem.Str} {D H I C : Num}
theorem judged_D (hy : y ≤ 9999) (e : D.1 = none) : judged G (some y, x) (some mo) D H I C = .bad D.2 := by simp only [judged, if_neg (Int.not_lt.mpr hy), e]
theorem judged_H (hy : y ≤ 9999) (e1 : D.1 = some d) (e : H.1 = none) : judged G (some y, x) (some mo) D H I C = .bad H.2 := by simp only [judged, if_neg (Int.not_lt.mpr hy), e1, e]
theorem judged_I (hy : y ≤ 9999) (e1 : D.1 = some d) (e2 : H.1 = some h) (e : I.1 = none) : judged G (some y, x) (some mo) D H I C = .bad I.2 := by simp only [judged, if_neg (Int.not_lt.mpr hy), e1, e2, e]
theorem judged_C (hy : y ≤ 9999) (e1 : D.1 = some d) (e2 : H.1 = some h) (e3 : I.1 = some mi) (e : C.1 = none) : judged G (some y, x) (some mo) D H I C = .bad C.2 := by simp only [judged, if_neg (Int.not_lt.mpr hy), e1, e2, e3, e]
theorem judged_T (hy : y ≤ 9999) (e1 : D.1 = some d) (e2 : H.1 = some h) (e3 : I.1 = some mi) (e4 : C.1 = some se) (e : inR d y h mi se = true) : judged G (some y, x) (some mo) D H I C = .sec (G d mo y h mi se) := by simp only [judged, if_neg (Int.not_lt.mpr hy), e1, e2, e3, e4, e, if_true]
theorem judged_F (hy : y ≤ 9999) (e1 : D.1 = some d) (e2 : H.1 = some h) (e3 : I.1 = some mi) (e4 : C.1 = some se) (e : inR d y h mi se = false) : judged G (some y, x) (some mo) D H I C = .none := by simp only [judged, if_neg (Int.not_lt.mpr hy), e1, e2, e3, e4, e, if_false, Bool.false_eq_true]
end
theorem judged_none {G : Int → Int → Int → Int → Int → Int → Int} {y : Int} {x : PySem.Str} {D H I C : Num} : judged G (some y, x) none D H I C = .none := by
  simp only [judged]
  split <;> rfl
/-- a clock's part: it may be missing -/
def ClockArg (v : Value) (N : Num) : Prop := (v = .none ∧ N.1 = some 0) ∨ (∃ x u, v = .str x u) ∧ IntArg v N.1 N.2
def ZoneArg (v : Value) : Prop := v = .none ∨ ∃ x u, v = .str x u ∧ x.length ≤ 10 ∧ (Txt.upper x = PySem.Str.ofString "GMT" ∨ Txt.upper x = PySem.Str.ofString "UTC" ∨ Txt.upper x = PySem.Str.ofString "UT" ∨ Txt.upper x = PySem.Str.ofString "Z")
def InB (N : Num) (a b : Int) : Prop := ∀ n, N.1 = some n → a ≤ n ∧ n ≤ b

/-- what a call of _str2time comes to -/
abbrev S2Ct (w : World) (loose : List PySem.Str) (mean : ExcName → Option Value) (mg mb : PySem.Str → Option Value) (news : List (Addr × Obj)) (vs : List Value) (o : Out) : Prop :=
  ∀ (dp un : Nat) (gd : Option (List Code)) (cn : PySem.Str) (cs : Scope) (a : Addr) (ccd : Value) (outer : List Env) (A₀ : Around) (base h₀ : Heap) (L : Addr) (m : PySem.Str → Option Value) (s : Shared) (Q E : Value → Shared → Prop),
    Below A₀ base outer h₀ → Fr h₀ L s.heap m → (MineTop.hd.heap_39 w.params).In h₀ → News h₀ L s.heap news → Top MineTop.hd.view_39 loose mean mg mb h₀ →
      (MineTop.hd.heap_39 w.params).In base → Top MineTop.hd.view_39 loose mean mg mb base → KtsDicts (outer.filterMap (·.frame)) h₀ → cs.kind = .function → dp + 40 < recursionLimit → un + 400 < cLine →
      (∀ v h' tk' g', KtsTurn (outer.filterMap (·.frame)) h₀ g' → Fr g' L h' m → News g' L h' news → Below A₀ base outer g' → (MineTop.hd.heap_39 w.params).In g' → Top MineTop.hd.view_39 loose mean mg mb g' → KtsDicts (outer.filterMap (·.frame)) g' →
        OutV o v → Q v { s with heap := h', toks := tk' }) →
      (∀ x e t tm h' tk' G g', o = .bad x → KtsTurn (outer.filterMap (·.frame)) h₀ g' → Fr g' L G m → Below A₀ base outer g' → KtsDicts (outer.filterMap (·.frame)) g' → G.UpToSlots h' →
        RaisedS base G (envOf cn cs L a ccd :: outer) e (.type "ValueError") t [.str (noNumber x) tm] news h' → E (.ref e) { s with heap := h', toks := tk' }) →
      wpC (model PySem.Challenge.pw_in0098_01 w) (ktrTop dp un gd cn cs L a ccd [] outer) (call (.ref 116) vs) Q E s

set_option maxHeartbeats 4000000 in
theorem s2t_C (w : World) {loose mean mg mb} {news : List (Addr × Obj)} (vd vm vy vh vi vc vz : Value) (Y D H I C : Num) (M : Option Int)
    (hY : IntArg vy Y.1 Y.2) (hM : MonArg vm M) (hD : IntArg vd D.1 D.2) (hH : ClockArg vh H) (hI : ClockArg vi I) (hC : ClockArg vc C) (hz : ZoneArg vz)
    (bY : InB Y 1969 20000) (bD : InB D (-1) 100) (bH : InB H (-1) 100) (bI : InB I 0 100) (bC : InB C 0 100) :
    S2Ct w loose mean mg mb news [vd, vm, vy, vh, vi, vc, vz] (judged gmZ Y M D H I C) := by
  intro dp un gd cn cs a ccd outer A₀ base h₀ L m s Q E B F X N T XB TB DD hk hd hu hret hraise
  refine' s_enter B F X N T DD ?kA hk ?k6 ?k7 ?k8 ?k9 ?kB ?_ ?c2 ?c3 ?c4 ?c5
  case kA => exact rfl
  case k6 => k_is
  case k7 => k_is
  case k8 => (simp only [depth_under_make, depth_under_kw, depth_in1, depth_deeper, depth_caller]; omega)
  case k9 => exact BindsTo.of_eq rfl
  case c5 => decide
  case kB => exact locs rfl
  case c2 => exact rfl
  case c3 => exact rfl
  case c4 => exact rfl
  intro g L' h1 F0 F1 N1 B1 X1 T1 D1
  replace F1 := Fr.congr F1 (fun z => mp8_start vd vm vy vh vi vc vz z)
  dsimp only
  -- the ends
  have hR : ∀ v h' tk gg m', KtsTurn ((envOf cn cs L a ccd :: outer).filterMap (·.frame)) g gg → Fr gg L' h' m' → News gg L' h' news → OutV (judged gmZ Y M D H I C) v → Q v { s with heap := h', toks := tk } := by
    intro v h' tk gg m' TT FF NN o
    obtain ⟨g0, T0, FG, B0⟩ := kts_back B F0 TT
    exact hret v h' tk g0 T0 (Mine.Fr.comp FG FF) (Mine.News.under FG FF NN) B0 (XB.keeps B0.stays) (TB.keeps B0.stays) (DD.turn T0) o
  have hE : ∀ x e h' tk tm gg m' hh, judged gmZ Y M D H I C = .bad x → KtsTurn ((envOf cn cs L a ccd :: outer).filterMap (·.frame)) g gg → Fr gg L' hh m' → News gg L' hh news → Below (ktrTop dp un gd cn cs L a ccd [] outer) base (envOf cn cs L a ccd :: outer) gg →
      MadeX hh h' e "ValueError" .none [.str (noNumber x) tm] → ∀ (name : PySem.Str) (scope : Scope) (cd : Value), scope.kind = .function →
      wpAny (model PySem.Challenge.pw_in0098_01 w) ((ktrTop dp un gd cn cs L a ccd [] outer).deeper (envOf name scope L' 116 cd)) (leaving (envOf name scope L' 116 cd) (.ref e)) (fun _ s'' => E (.ref e) s'') (fun e' s'' => E e' s'') { s with heap := h', toks := tk } := by
    intro x e h' tk tm gg m' hh ho TT FF NN BB hx name scope cd hsk
    refine leave_raiseS (h := hh) (s' := { s with heap := h', toks := tk }) BB ⟨hx.keeps, hx.new, (by obtain ⟨t, q1, q2, q3, q4⟩ := hx.there; exact ⟨t, q1, q2, q4⟩)⟩ FF NN (fun h'' t R RK hsm => ?_) hsk
    obtain ⟨g0, T0, FG, B0⟩ := kts_back B F0 TT
    exact hraise x e t tm h'' tk gg g0 ho T0 FG B0 (DD.turn T0) hsm R
  -- yr = int(yr)
  refine wpC_execs_cons (wpC_asg_int (v := vy) (r := Y.1) (tx := Y.2) F1 N1 X1 T1 rfl hY ?a1 rfl rfl rfl (by decide) (by k_is) rfl ?ok1 ?bad1)
  case a1 => intro v q; cases q
  case bad1 =>
    intro hr h' e tk tm hx
    dsimp only
    exact hE Y.2 e h' tk tm g _ _ (by rw [judged, hr]) KtsTurn.refl F1 N1 B1 hx _ _ _ rfl
  intro y h2 t2 tk2 hr F2 N2
  clear F1 N1 hY
  replace F2 := Fr.congr F2 (fun z => mp8_yr vd vm vy vh vi vc vz (.int y t2) none z)
  obtain ⟨Y1, Y2⟩ := Y
  obtain rfl : Y1 = some y := hr
  have hyb := bY y rfl
  clear bY
  dsimp only
  -- if yr > MAXYEAR
  by_cases hy9 : y ≤ 9999
  case neg =>
    have o : judged gmZ (some y, Y2) M D H I C = .none := by simp only [judged, if_pos (Int.not_le.mp hy9)]
    replace hR := Stuck.mk hR
    replace hret := Stuck.mk hret
    replace hraise := Stuck.mk hraise
    replace hE := Stuck.mk hE
    refine wpC_of_any ?_
    k_fold
    k_steps
    all_goals (refine' hR.out _ _ _ _ _ KtsTurn.refl ?k1 ?k2 (by rw [o]; rfl); (case k1 => k_asm); (case k2 => k_asm))
  refine wpC_cut2 (fun s' => ∃ h tk, s' = { s with heap := h, toks := tk } ∧ Fr g L' h (mp8 vd vm (.int y t2) vh vi vc vz none) ∧ News g L' h news) (fun _ _ => False) 1 ?cutA ?cutB (fun _ _ z => z.elim)
  case cutA =>
    clear hR hret hraise hE
    refine wpC_of_any ?_
    dsimp only [List.take]
    k_steps
    all_goals (refine Hid2.next ⟨_, _, rfl, ?_, ?_⟩; k_asm; k_asm)
  intro s' hs'
  clear F2 N2
  obtain ⟨h3, tk3, rfl, F3, N3⟩ := hs'
  dsimp only [List.drop]
  -- the month
  refine wpC_cut2 (fun s' => ∃ gg h tk im mo t, s' = { s with heap := h, toks := tk } ∧ M = some mo ∧ KtsTurn ((envOf cn cs L a ccd :: outer).filterMap (·.frame)) g gg ∧ Fr gg L' h (mp8 vd (.int mo t) (.int y t2) vh vi vc vz im) ∧ News gg L' h news ∧ Below (ktrTop dp un gd cn cs L a ccd [] outer) base (envOf cn cs L a ccd :: outer) gg)
    (fun v s' => ∃ gg h tk m', v = Value.none ∧ M = none ∧ s' = { s with heap := h, toks := tk } ∧ KtsTurn ((envOf cn cs L a ccd :: outer).filterMap (·.frame)) g gg ∧ Fr gg L' h m' ∧ News gg L' h news) 1 ?cutC ?cutD ?cutE
  case cutE =>
    rintro v s' ⟨gg, h, tk, m', rfl, rfl, rfl, q1, q2, q3⟩
    exact hR _ _ _ _ _ q1 q2 q3 (by rw [judged_none]; rfl)
  case cutC =>
    clear hR hret hraise hE
    dsimp only [List.take]
    cases hM with
    | named x u k hx hk' =>
      refine wpC_of_any ?_
      k_steps
      all_goals (rename Fr _ L' _ _ => FF; rename News _ L' _ _ => NN; exact Hid2.next ⟨g, _, _, none, _, _, rfl, (by first | rfl | trivial), KtsTurn.refl, Fr.congr FF (fun z => mp8_mon _ _ _ _ _ _ _ _ _ z), NN, B1⟩)
    | num x u n hx hni hq1 hq2 hn hb =>
      refine wpC_execs_cons (wpC_Try_except (wpC_of_any ?_))
      k_steps
      rename MadeX _ _ _ _ _ _ => hx1
      refine Stuck.mk ?_
      dsimp only
      refine own_caughtC hx1 F3 N3 B1 rfl XB TB D1 rfl (by k_is) rfl fun h5 g5 t5 T5 K5 F5 N5 B5 X5 TT5 D5 => ?_
      clear hx1
      refine wpC_execs_cons (wpC_Try_except (wpC_execs_cons (wpC_asg_int (v := .str x u) (r := some n) (tx := x) F5 N5 X5 TT5 rfl (intArg_text hn) (handledOk_mark (N5 _ (List.Mem.head _)).1) rfl rfl rfl (by decide) (by k_is) rfl ?_ (fun z => by cases z))))
      intro n' h6 t6 tk6 hr F6 N6
      cases hr
      clear F5 N5 F3 N3
      dsimp only
      refine wpC_execs_nil ?_
      dsimp only
      refine wpC_execs_nil ?_
      dsimp only
      refine wpC_of_any ?_
      replace F6 := Fr.congr F6 (fun z => mp8_imon vd (.str x u) (.int y t2) vh vi vc vz (.int n t6) none z)
      k_steps
      all_goals (refine wpC_execs_nil ?_; rename Fr _ L' _ _ => FF; rename News _ L' _ _ => NN; exact Hid2.next ⟨g5, _, _, some (.int n t6), _, _, rfl, (by first | rfl | trivial), K5, Fr.congr FF (fun z => mp8_mon _ _ _ _ _ _ _ _ _ z), cb_drop NN (fun p hp => List.mem_cons_of_mem _ hp), B5⟩)
    | out x u n hx hni hq1 hq2 hn hb hb2 =>
      refine wpC_execs_cons (wpC_Try_except (wpC_of_any ?_))
      k_steps
      rename MadeX _ _ _ _ _ _ => hx1
      refine Stuck.mk ?_
      dsimp only
      refine own_caughtC hx1 F3 N3 B1 rfl XB TB D1 rfl (by k_is) rfl fun h5 g5 t5 T5 K5 F5 N5 B5 X5 TT5 D5 => ?_
      clear hx1
      refine wpC_execs_cons (wpC_Try_except (wpC_execs_cons (wpC_asg_int (v := .str x u) (r := some n) (tx := x) F5 N5 X5 TT5 rfl (intArg_text hn) (handledOk_mark (N5 _ (List.Mem.head _)).1) rfl rfl rfl (by decide) (by k_is) rfl ?_ (fun z => by cases z))))
      intro n' h6 t6 tk6 hr F6 N6
      cases hr
      clear F5 N5 F3 N3
      dsimp only
      refine wpC_execs_nil ?_
      dsimp only
      refine wpC_execs_nil ?_
      dsimp only
      refine wpC_of_any ?_
      replace F6 := Fr.congr F6 (fun z => mp8_imon vd (.str x u) (.int y t2) vh vi vc vz (.int n t6) none z)
      k_steps
      all_goals (dsimp only; rename Fr _ L' _ _ => FF; rename News _ L' _ _ => NN; exact Hid2.ret ⟨g5, _, _, _, rfl, (by first | rfl | trivial), rfl, K5, FF, cb_drop NN (fun p hp => List.mem_cons_of_mem _ hp)⟩)
    | bad x u hx hni hq1 hq2 hn =>
      refine wpC_execs_cons (wpC_Try_except (wpC_of_any ?_))
      k_steps
      rename MadeX _ _ _ _ _ _ => hx1
      refine Stuck.mk ?_
      dsimp only
      refine own_caughtC hx1 F3 N3 B1 rfl XB TB D1 rfl (by k_is) rfl fun h5 g5 t5 T5 K5 F5 N5 B5 X5 TT5 D5 => ?_
      clear hx1
      refine wpC_execs_cons (wpC_Try_except (wpC_execs_cons (wpC_asg_int (v := .str x u) (r := none) (tx := x) F5 N5 X5 TT5 rfl (intArg_bad hn) (handledOk_mark (N5 _ (List.Mem.head _)).1) rfl rfl rfl (by decide) (by k_is) rfl (fun _ _ _ _ z => by cases z) ?_)))
      intro hr h6 e6 tk6 tm6 hx6
      dsimp only
      refine own_caughtC hx6 F5 N5 B5 rfl XB TB D5 rfl (by k_is) rfl fun h7 g7 t7 T7 K7 F7 N7 B7 X7 TT7 D7 => ?_
      clear hx6 F5 N5 F3 N3
      refine wpC_of_any ?_
      k_steps
      all_goals (dsimp only; rename Fr _ L' _ _ => FF; rename News _ L' _ _ => NN; exact Hid2.ret ⟨g7, _, _, _, rfl, (by first | rfl | trivial), rfl, K5.trans K7, FF, cb_drop NN (fun p hp => List.mem_cons_of_mem _ (List.mem_cons_of_mem _ hp))⟩)
  rintro s' ⟨gg, h4, tk4, im, mo, tm, rfl, rfl, KK, F4, N4, B4⟩
  clear F3 N3 B1 X1 T1
  have X4 := XB.keeps B4.stays
  have T4 := TB.keeps B4.stays
  have hmo := monArg_bound hM
  clear hM
  dsimp only [List.drop]
  refine wpC_cut2 (fun s' => ∃ h tk vh', s' = { s with heap := h, toks := tk } ∧ IntArg vh' H.1 H.2 ∧ Fr gg L' h (mp8 vd (.int mo tm) (.int y t2) vh' vi vc vz im) ∧ News gg L' h news) (fun _ _ => False) 1 ?cuthrA ?cuthrB (fun _ _ z => z.elim)
  case cuthrA =>
    clear hR hret hraise hE
    refine wpC_of_any ?_
    dsimp only [List.take]
    rcases hH with ⟨rfl, e⟩ | ⟨⟨x, u, rfl⟩, hi⟩
    · k_steps
      all_goals (rename Fr _ L' _ _ => FF; rename News _ L' _ _ => NN; exact Hid2.next ⟨_, _, _, rfl, clock0 e, Fr.congr FF (fun z => mp8_hr _ _ _ _ _ _ _ _ _ z), NN⟩)
    · k_steps
      all_goals (rename Fr _ L' _ _ => FF; rename News _ L' _ _ => NN; exact Hid2.next ⟨_, _, _, rfl, hi, FF, NN⟩)
  clear F4 N4 hH
  rintro s' ⟨h5, tk5, vh', rfl, iH, F5, N5⟩
  dsimp only [List.drop]
  refine wpC_cut2 (fun s' => ∃ h tk vi', s' = { s with heap := h, toks := tk } ∧ IntArg vi' I.1 I.2 ∧ Fr gg L' h (mp8 vd (.int mo tm) (.int y t2) vh' vi' vc vz im) ∧ News gg L' h news) (fun _ _ => False) 1 ?cutminA ?cutminB (fun _ _ z => z.elim)
  case cutminA =>
    clear hR hret hraise hE
    refine wpC_of_any ?_
    dsimp only [List.take]
    rcases hI with ⟨rfl, e⟩ | ⟨⟨x, u, rfl⟩, hi⟩
    · k_steps
      all_goals (rename Fr _ L' _ _ => FF; rename News _ L' _ _ => NN; exact Hid2.next ⟨_, _, _, rfl, clock0 e, Fr.congr FF (fun z => mp8_min _ _ _ _ _ _ _ _ _ z), NN⟩)
    · k_steps
      all_goals (rename Fr _ L' _ _ => FF; rename News _ L' _ _ => NN; exact Hid2.next ⟨_, _, _, rfl, hi, FF, NN⟩)
  clear F5 N5 hI
  rintro s' ⟨h6, tk6, vi', rfl, iI, F6, N6⟩
  dsimp only [List.drop]
  refine wpC_cut2 (fun s' => ∃ h tk vc', s' = { s with heap := h, toks := tk } ∧ IntArg vc' C.1 C.2 ∧ Fr gg L' h (mp8 vd (.int mo tm) (.int y t2) vh' vi' vc' vz im) ∧ News gg L' h news) (fun _ _ => False) 1 ?cutsecA ?cutsecB (fun _ _ z => z.elim)
  case cutsecA =>
    clear hR hret hraise hE
    refine wpC_of_any ?_
    dsimp only [List.take]
    rcases hC with ⟨rfl, e⟩ | ⟨⟨x, u, rfl⟩, hi⟩
    · k_steps
      all_goals (rename Fr _ L' _ _ => FF; rename News _ L' _ _ => NN; exact Hid2.next ⟨_, _, _, rfl, clock0 e, Fr.congr FF (fun z => mp8_sec _ _ _ _ _ _ _ _ _ z), NN⟩)
    · k_steps
      all_goals (rename Fr _ L' _ _ => FF; rename News _ L' _ _ => NN; exact Hid2.next ⟨_, _, _, rfl, hi, FF, NN⟩)
  clear F6 N6 hC
  rintro s' ⟨h7, tk7, vc', rfl, iC, F7, N7⟩
  dsimp only [List.drop]
  refine wpC_execs_cons (wpC_asg_int (v := vd) (r := D.1) (tx := D.2) F7 N7 X4 T4 rfl hD (fun v q => by cases q) rfl rfl rfl (by decide) (by k_is) rfl ?okD ?badD)
  case badD =>
    intro hr h' e tk tm hx
    dsimp only
    exact hE D.2 e h' tk tm gg _ _ (judged_D hy9 hr) KK F7 N7 B4 hx _ _ _ rfl
  intro d h8 tD tk8 eD F8 N8
  clear F7 N7 hD
  replace F8 := Fr.congr F8 (fun z => mp8_day vd (.int mo tm) (.int y t2) vh' vi' vc' vz (.int d tD) im z)
  dsimp only
  refine wpC_execs_cons (wpC_asg_int (v := vh') (r := H.1) (tx := H.2) F8 N8 X4 T4 rfl iH (fun v q => by cases q) rfl rfl rfl (by decide) (by k_is) rfl ?okH ?badH)
  case badH =>
    intro hr h' e tk tm hx
    dsimp only
    exact hE H.2 e h' tk tm gg _ _ (judged_H hy9 eD hr) KK F8 N8 B4 hx _ _ _ rfl
  intro hh h9 tH tk9 eH F9 N9
  clear F8 N8 iH
  replace F9 := Fr.congr F9 (fun z => mp8_hr (.int d tD) (.int mo tm) (.int y t2) vh' vi' vc' vz (.int hh tH) im z)
  dsimp only
  refine wpC_execs_cons (wpC_asg_int (v := vi') (r := I.1) (tx := I.2) F9 N9 X4 T4 rfl iI (fun v q => by cases q) rfl rfl rfl (by decide) (by k_is) rfl ?okI ?badI)
  case badI =>
    intro hr h' e tk tm hx
    dsimp only
    exact hE I.2 e h' tk tm gg _ _ (judged_I hy9 eD eH hr) KK F9 N9 B4 hx _ _ _ rfl
  intro mi h10 tI tk10 eI F10 N10
  clear F9 N9 iI
  replace F10 := Fr.congr F10 (fun z => mp8_min (.int d tD) (.int mo tm) (.int y t2) (.int hh tH) vi' vc' vz (.int mi tI) im z)
  dsimp only
  refine wpC_execs_cons (wpC_asg_int (v := vc') (r := C.1) (tx := C.2) F10 N10 X4 T4 rfl iC (fun v q => by cases q) rfl rfl rfl (by decide) (by k_is) rfl ?okC ?badC)
  case badC =>
    intro hr h' e tk tm hx
    dsimp only
    exact hE C.2 e h' tk tm gg _ _ (judged_C hy9 eD eH eI hr) KK F10 N10 B4 hx _ _ _ rfl
  intro se h11 tC tk11 eC F11 N11
  clear F10 N10 iC
  replace F11 := Fr.congr F11 (fun z => mp8_sec (.int d tD) (.int mo tm) (.int y t2) (.int hh tH) (.int mi tI) vc' vz (.int se tC) im z)
  dsimp only
  have hdb := bD d eD
  have hhb := bH hh eH
  have hmib := bI mi eI
  have hseb := bC se eC
  replace hR := Stuck.mk hR
  clear hret hraise hE bD bH bI bC
  refine wpC_of_any ?_
  cases hin : inR d y hh mi se with
  | true =>
    have o : OutV (judged gmZ (some y, Y2) (some mo) D H I C) = OutV (.sec (gmZ d mo y hh mi se)) := by rw [judged_T hy9 eD eH eI eC hin]
    rcases hz with rfl | ⟨zx, zu, rfl, hzl, hzc⟩
    · k_steps
      all_goals (rename Fr _ L' _ _ => FF; rename News _ L' _ _ => NN; exact hR.out _ _ _ gg _ KK FF (cb_drop NN (fun p hp => List.mem_cons_of_mem _ hp)) (by rw [o]; exact val_sub0))
    · k_steps
      all_goals (rename Fr _ L' _ _ => FF; rename News _ L' _ _ => NN; exact hR.out _ _ _ gg _ KK FF (cb_drop NN (fun p hp => List.mem_cons_of_mem _ hp)) (by rw [o]; exact val_sub0))
  | false =>
    have o : OutV (judged gmZ (some y, Y2) (some mo) D H I C) = OutV .none := by rw [judged_F hy9 eD eH eI eC hin]
    rcases hz with rfl | ⟨zx, zu, rfl, hzl, hzc⟩
    · k_steps
      all_goals (rename Fr _ L' _ _ => FF; rename News _ L' _ _ => NN; exact hR.out _ _ _ gg _ KK FF (cb_drop NN (fun p hp => List.mem_cons_of_mem _ hp)) (by rw [o]; rfl))
    · k_steps
      all_goals (rename Fr _ L' _ _ => FF; rename News _ L' _ _ => NN; exact hR.out _ _ _ gg _ KK FF (cb_drop NN (fun p hp => List.mem_cons_of_mem _ hp)) (by rw [o]; rfl))
end Mine
end

section
open PySem PySem.W PyProof.Rows
namespace Mine
open Sem (wp)
open PySem.Calls PySem.NumText PySem.MeetsSeq
local macro_rules | `(tactic| walk_at "execs cons") => `(tactic| (k_here; (with_reducible refine gen_toks ?_); intro tk'))
local macro_rules | `(tactic| walk_at "execs nil") => `(tactic| (k_here; (with_reducible refine gen_toks ?_); intro tk'))
local macro_rules | `(tactic| k_mem) => `(tactic| assumption)
local macro_rules | `(tactic| walk_at "call type:str") => `(tactic| (k_here; (rename Got _ _ _ _ _ => gX); (with_reducible show wpAny _ _ (call (Value.type "str") [Value.ref _]) _ _ _); k_dflt (refine' str_got_one PySem.F.excStr_ValueError ?zN gX ?hu ?_); (case zN => assumption); (case hu => ktr_units)))
def ToldV (o : Out) (v : Value) : Prop := match o with
  | .none => v = .none
  | .sec z => ∃ t, v = .int z t
  | .bad x => ∃ t, v = .str (noNumber x) t
theorem ToldV.of {o : Out} {v : Value} (h : OutV o v) : ToldV o v := by
  cases o with
  | none => exact h
  | sec z => exact h
  | bad x => exact h.elim

abbrev mpT (l : Addr) (vz : Value) : PySem.Str → Option Value := fun z => if z = PySem.Str.ofString "fields" then some (.ref l) else if z = PySem.Str.ofString "zone" then some vz else none
theorem mpT_start (l : Addr) (vz : Value) (z : PySem.Str) : List.lookup z [(PySem.Str.ofString "zone", vz), (PySem.Str.ofString "fields", .ref l)] = mpT l vz z := by
  by_cases q1 : z = PySem.Str.ofString "fields"
  · subst q1; rfl
  by_cases q2 : z = PySem.Str.ofString "zone"
  · subst q2; rfl
  have n : ∀ x : PySem.Str, ¬ z = x → (z == x) = false := fun x h => by simpa using h
  simp only [List.lookup, n _ q1, n _ q2, mpT, q1, q2, if_false]
abbrev mpU (l : Addr) (vz vd vm vy vh vi vc : Value) : PySem.Str → Option Value := fun z => if z = PySem.Str.ofString "second" then some vc else if z = PySem.Str.ofString "minute" then some vi else if z = PySem.Str.ofString "hour" then some vh else if z = PySem.Str.ofString "year" then some vy else if z = PySem.Str.ofString "month" then some vm else if z = PySem.Str.ofString "day" then some vd else mpT l vz z
theorem lookup_func {K : Frag} {a : Addr} {oc : Value} {od : Option Addr} {fd : FuncData} {osl : Array (Option Value)} (h : K.lookup a = some ⟨oc, od, .func fd, osl⟩) : ∃ (o : Obj) (fd : FuncData), K.lookup a = some o ∧ o.data = .func fd := ⟨_, _, h, rfl⟩
set_option maxHeartbeats 4000000 in
theorem told_C (w : World) {loose mean mg mb} {news : List (Addr × Obj)} (l a0 a1 a2 a3 a4 a5 : Addr) (n : Nat) (vd vm vy vh vi vc vz k0 k1 k2 k3 k4 k5 : Value) (o : Out)
    (hl : (l, listOf [Value.ref a0, .ref a1, .ref a2, .ref a3, .ref a4, .ref a5].toArray n) ∈ news)
    (p0 : (a0, tupOf [vd, k0]) ∈ news) (p1 : (a1, tupOf [vm, k1]) ∈ news) (p2 : (a2, tupOf [vy, k2]) ∈ news) (p3 : (a3, tupOf [vh, k3]) ∈ news) (p4 : (a4, tupOf [vi, k4]) ∈ news) (p5 : (a5, tupOf [vc, k5]) ∈ news)
    (hS : S2Ct w loose mean mg mb news [vd, vm, vy, vh, vi, vc, vz] o) :
  ∀ (dp un : Nat) (gd : Option (List Code)) (cn : PySem.Str) (cs : Scope) (a : Addr) (ccd : Value) (outer : List Env) (A₀ : Around) (base h₀ : Heap) (L : Addr) (m : PySem.Str → Option Value) (s : Shared) (Q E : Value → Shared → Prop),
    Below A₀ base outer h₀ → Fr h₀ L s.heap m → (MineTop.hd.heap_39 w.params).In h₀ → News h₀ L s.heap news → Top MineTop.hd.view_39 loose mean mg mb h₀ →
      (MineTop.hd.heap_39 w.params).In base → Top MineTop.hd.view_39 loose mean mg mb base → KtsDicts (outer.filterMap (·.frame)) h₀ → cs.kind = .function → dp + 60 < recursionLimit → un + 600 < cLine →
      (∀ v h' tk' g', KtsTurn (outer.filterMap (·.frame)) h₀ g' → Fr g' L h' m → News g' L h' news → Below A₀ base outer g' → (MineTop.hd.heap_39 w.params).In g' → Top MineTop.hd.view_39 loose mean mg mb g' → KtsDicts (outer.filterMap (·.frame)) g' →
        ToldV o v → Q v { s with heap := h', toks := tk' }) →
      wpC (model PySem.Challenge.pw_in0098_01 w) (ktrTop dp un gd cn cs L a ccd [] outer) (call (.ref 154) [.ref l, vz]) Q E s := by
  intro dp un gd cn cs a ccd outer A₀ base h₀ L m s Q E B F X N T XB TB DD hk hd hu hret
  refine' s_enter B F X N T DD ?kA hk ?k6 ?k7 ?k8 ?k9 ?kB ?_ ?c2 ?c3 ?c4 ?c5
  case kA => exact rfl
  case k6 => k_is
  case k7 => k_is
  case k8 => show dp < recursionLimit; omega
  case k9 => exact BindsTo.of_eq rfl
  case c5 => decide
  case kB => exact locs rfl
  case c2 => exact rfl
  case c3 => exact rfl
  case c4 => exact rfl
  intro g L' h1 F0 F1 N1 B1 X1 T1 D1
  dsimp only
  have hR : ∀ v h' tk gg m', KtsTurn ((envOf cn cs L a ccd :: outer).filterMap (·.frame)) g gg → Fr gg L' h' m' → News gg L' h' news → ToldV o v → Q v { s with heap := h', toks := tk } := by
    intro v h' tk gg m' TT FF NN o
    obtain ⟨g0, T0, FG, B0⟩ := kts_back B F0 TT
    exact hret v h' tk g0 T0 (Mine.Fr.comp FG FF) (Mine.News.under FG FF NN) B0 (XB.keeps B0.stays) (TB.keeps B0.stays) (DD.turn T0) o
  replace hR := Stuck.mk hR
  clear hret
  replace F1 := Fr.congr F1 (fun z => mpT_start l vz z)
  refine wpC_cut2 (fun s' => ∃ h tk, s' = { s with heap := h, toks := tk } ∧ Fr g L' h (mpU l vz vd vm vy vh vi vc) ∧ News g L' h news) (fun _ _ => False) 1 ?cutA ?cutB (fun _ _ z => z.elim)
  case cutA =>
    clear hR hS
    dsimp only [List.take]
    refine wpC_of_any ?_
    walk1
    walk1
    walk1
    walk1
    k_dflt (refine' comp_rest (j := 0) (as := [a0, a1, a2, a3, a4, a5]) ?c1 ?c2 ?c3 ?c4 ?c5 ?c6 6 0 [vd, vm, vy, vh, vi, vc] [] ?c7 ?c8 ?c9 ?c10)
    case c1 => decide
    case c2 => exact .inr ⟨_, hl, rfl, _, rfl⟩
    case c3 => decide
    case c4 => rfl
    case c5 => rfl
    case c6 => intro _ _; rfl
    case c7 => rfl
    case c8 => rfl
    case c9 => exact ht_six p0 p1 p2 p3 p4 p5 ⟨rfl, Nat.le_of_ble_eq_true rfl⟩ ⟨rfl, Nat.le_of_ble_eq_true rfl⟩ ⟨rfl, Nat.le_of_ble_eq_true rfl⟩ ⟨rfl, Nat.le_of_ble_eq_true rfl⟩ ⟨rfl, Nat.le_of_ble_eq_true rfl⟩ ⟨rfl, Nat.le_of_ble_eq_true rfl⟩
    case c10 =>
      k_steps
      all_goals (
        refine' Hid2.next ⟨_, _, rfl, ?d1, cb_drop ?d2 ?d3⟩
        case d1 => k_asm
        case d2 => k_asm
        case d3 => intro p hp; exact List.mem_cons_of_mem _ hp)
  rintro s' ⟨h2, tk2, rfl, F2, N2⟩
  clear F1 N1
  dsimp only [List.drop]
  -- the try
  refine wpC_execs_cons (wpC_Try_except (wpC_execs_cons (wpC_Assign_Name (wpC_Call_Name rfl ?_) rfl)))
  refine name_K (v := .ref 116) F2 X1 (topRead_of T1) (by k_is) ?_ rfl rfl (by decide)
  obtain ⟨o116, fd116, e116, q116⟩ := lookup_func (K := MineTop.hd.heap_39 w.params) (a := 116) (by k_is)
  refine wpC_callWith_function (o := o116) (fd := fd116) (Calls.evalArgs_plain (spliced_cons ?_))
  refine ld F2 rfl (spliced_cons ?_) rfl rfl (by decide)
  refine ld F2 rfl (spliced_cons ?_) rfl rfl (by decide)
  refine ld F2 rfl (spliced_cons ?_) rfl rfl (by decide)
  refine ld F2 rfl (spliced_cons ?_) rfl rfl (by decide)
  refine ld F2 rfl (spliced_cons ?_) rfl rfl (by decide)
  refine ld F2 rfl (spliced_cons ?_) rfl rfl (by decide)
  refine ld F2 rfl (spliced_nil ?_) rfl rfl (by decide)
  refine ⟨⟨F2.keep _ _ (X1 _ _ e116), q116⟩, ?_⟩
  dsimp only [List.nil_append]
  refine' hS _ _ _ _ _ _ _ _ _ _ _ L' _ _ _ _ B1 F2 X1 N2 T1 XB TB D1 rfl ?r1 ?r2 ?hret ?hraise
  case r1 => ktr_room
  case r2 => ktr_units
  case hret =>
    intro v h' tk' g' K' F' N' B' X' T' D' o'
    refine stN (s := { s with heap := h', toks := tk' }) F' N' (fun h3 F3 N3 => ?_) rfl rfl
    clear F2 N2 F' N'
    dsimp only
    refine wpC_execs_nil ?_
    dsimp only
    refine wpC_execs_nil ?_
    dsimp only
    refine wpC_of_any ?_
    clear hS
    cases o with
    | none =>
      obtain rfl : v = .none := o'
      k_steps
      all_goals (rename Fr _ L' _ _ => FF; rename News _ L' _ _ => NN; exact hR.out _ _ _ g' _ K' FF NN rfl)
    | sec z =>
      obtain ⟨t, rfl⟩ : ∃ t, v = .int z t := o'
      k_steps
      all_goals (rename Fr _ L' _ _ => FF; rename News _ L' _ _ => NN; exact hR.out _ _ _ g' _ K' FF NN ⟨_, rfl⟩)
    | bad x => exact o'.elim
  case hraise =>
    intro x e t tm h' tk' G g' ho K' FG B' D' hsm R
    dsimp only
    refine wpAny_mono (caught_SB (s' := { s with heap := h', toks := tk' }) (T' := "ValueError") R FG B' hsm XB TB D' K' (by k_is) (by decide +kernel) (by decide) (isSubtype_of_subB (by decide +kernel)) (isSubtype_of_subB (by decide +kernel)) (isSubtype_of_subB (by decide +kernel)) (fun h5 g5 news₂ tk5 T5 F5 N5 G5 NN5 B5 X5 TT5 D5 => ?_) rfl rfl rfl (by decide))
      (fun _ _ h2 => wpAny_mono h2 (fun _ _ h3 => wpC_of_any h3) fun _ _ x => x) fun _ _ x => x
    clear F2 N2 FG R hS
    k_steps
    all_goals (rename Fr _ L' _ _ => FF; rename News _ L' _ _ => NN; exact hR.out _ _ _ g5 _ T5 FF NN (by rw [ho]; exact ⟨_, rfl⟩))
end Mine
end

section
open PySem PySem.W PyProof.Rows
namespace Mine
open PySem.Calls PySem.NumText
/-- a field that int() reads: c: it may be missing -/
inductive NumFld (c : Bool) (a b : Int) : Fld → Num → Prop
  | num (x : PySem.Str) (n : Int) : TextNum x n → (a ≤ n ∧ n ≤ b) → x.length ≤ 100 → NumFld c a b (some x, some n) (some n, x)
  | bad (x : PySem.Str) : TextBad x → x.length ≤ 100 → noNumber x = noNoText x → NumFld c a b (some x, none) (none, x)
  | miss : c = true → NumFld c a b (none, some 0) (some 0, PySem.Str.empty)
structure LowOk (x : PySem.Str) : Prop where
  len : x.length ≤ 100
  ni : Txt.lower x ∉ namesL
  q : (reprText (Txt.lower x)).length ≤ sizeLine
  q' : (notInText (Txt.lower x)).length ≤ sizeLine
inductive MonFld : Fld → Option Int → Prop
  | named (x : PySem.Str) (n : Int) : x.length ≤ 100 → namesL[(n - 1).toNat]? = some (Txt.lower x) → 1 ≤ n → MonFld (some x, some n) (some n)
  | num (x : PySem.Str) (n : Int) : LowOk x → TextNum x n → 1 ≤ n ∧ n ≤ 12 → MonFld (some x, some n) (some n)
  | out (x : PySem.Str) (n : Int) : LowOk x → TextNum x n → n < 1 ∨ 12 < n → -1000 ≤ n ∧ n ≤ 1000 → MonFld (some x, some n) none
  | bad (x : PySem.Str) (n : Int) : LowOk x → TextBad x → n < 1 ∨ 12 < n → MonFld (some x, some n) none
def YearOk (N : Num) : Prop := ∀ y, N.1 = some y → y ∈ yearsL ∨ y = 1969 ∨ 9999 < y
/-- a field that may stand at the j-th place -/
def OkAt (j : Nat) (f : Fld) : Prop := match j with
  | 0 => ∃ N, NumFld false (-1) 100 f N
  | 1 => ∃ M, MonFld f M
  | 2 => ∃ N, NumFld false 1969 20000 f N ∧ YearOk N
  | 3 => ∃ N, NumFld true (-1) 100 f N
  | 4 => ∃ N, NumFld true 0 100 f N
  | 5 => ∃ N, NumFld true 0 100 f N
  | _ => False
theorem yearOk_in {y : Int} {x : PySem.Str} (h : y ∈ yearsL ∨ y = 1969 ∨ 9999 < y) : YearOk (some y, x) := fun z e => by cases e; exact h
theorem yearOk_bad {x : PySem.Str} : YearOk (none, x) := fun z e => by cases e
local macro_rules | `(tactic| walk_at "OKAT") => `(tactic| first
  | exact ⟨_, NumFld.num _ _ ⟨by decide +kernel, by decide +kernel⟩ (by decide) (by decide +kernel)⟩
  | exact ⟨_, NumFld.miss rfl⟩
  | exact ⟨_, NumFld.bad _ ⟨by decide +kernel, by decide +kernel, by decide +kernel, by decide +kernel, by decide +kernel⟩ (by decide +kernel) (by decide +kernel)⟩
  | exact ⟨_, MonFld.named _ _ (by decide +kernel) (by decide +kernel) (by decide)⟩
  | exact ⟨_, MonFld.num _ _ ⟨by decide +kernel, by decide +kernel, by decide +kernel, by decide +kernel⟩ ⟨by decide +kernel, by decide +kernel⟩ (by decide)⟩
  | exact ⟨_, MonFld.out _ _ ⟨by decide +kernel, by decide +kernel, by decide +kernel, by decide +kernel⟩ ⟨by decide +kernel, by decide +kernel⟩ (by decide) (by decide)⟩
  | exact ⟨_, MonFld.bad _ _ ⟨by decide +kernel, by decide +kernel, by decide +kernel, by decide +kernel⟩ ⟨by decide +kernel, by decide +kernel, by decide +kernel, by decide +kernel, by decide +kernel⟩ (by decide)⟩
  | exact ⟨_, NumFld.num _ _ ⟨by decide +kernel, by decide +kernel⟩ (by decide) (by decide +kernel), yearOk_in (by decide)⟩
  | exact ⟨_, NumFld.bad _ ⟨by decide +kernel, by decide +kernel, by decide +kernel, by decide +kernel, by decide +kernel⟩ (by decide +kernel) (by decide +kernel), yearOk_bad⟩)
theorem days_ok : ∀ f ∈ daysM, OkAt 0 f := by
  simp only [daysM, List.forall_mem_cons]
  refine ⟨?_, ?_, ?_, ?_, ?_, ?_, ?_, fun f hf => nomatch hf⟩ <;> walk_at "OKAT"
theorem months_ok : ∀ f ∈ monthsM, OkAt 1 f := by
  simp only [monthsM, List.forall_mem_cons]
  refine ⟨?_, ?_, ?_, ?_, ?_, ?_, ?_, ?_, ?_, ?_, ?_, ?_, ?_, ?_, ?_, ?_, ?_, fun f hf => nomatch hf⟩ <;> walk_at "OKAT"
theorem years_ok : ∀ f ∈ yearsM, OkAt 2 f := by
  simp only [yearsM, List.forall_mem_cons]
  refine ⟨?_, ?_, ?_, ?_, ?_, ?_, ?_, ?_, ?_, ?_, ?_, fun f hf => nomatch hf⟩ <;> walk_at "OKAT"
theorem hours_ok : ∀ f ∈ hoursM, OkAt 3 f := by
  simp only [hoursM, List.forall_mem_cons]
  refine ⟨?_, ?_, ?_, ?_, ?_, fun f hf => nomatch hf⟩ <;> walk_at "OKAT"
theorem minutes_ok : ∀ f ∈ minutesM, OkAt 4 f := by
  simp only [minutesM, List.forall_mem_cons]
  refine ⟨?_, ?_, ?_, fun f hf => nomatch hf⟩ <;> walk_at "OKAT"
theorem seconds_ok : ∀ f ∈ secondsM, OkAt 5 f := by
  simp only [secondsM, List.forall_mem_cons]
  refine ⟨?_, ?_, ?_, ?_, ?_, ?_, ?_, ?_, ?_, ?_, ?_, ?_, ?_, fun f hf => nomatch hf⟩ <;> walk_at "OKAT"
theorem spoils_ok : ∀ p ∈ spoilsM, (0 ≤ p.1 ∧ p.1 < 6) ∧ OkAt p.1.toNat p.2 := by
  simp only [spoilsM, List.forall_mem_cons]
  refine ⟨⟨by decide, ?_⟩, ⟨by decide, ?_⟩, ⟨by decide, ?_⟩, ⟨by decide, ?_⟩, ⟨by decide, ?_⟩, ⟨by decide, ?_⟩, ⟨by decide, ?_⟩, ⟨by decide, ?_⟩, ⟨by decide, ?_⟩, ⟨by decide, ?_⟩, ⟨by decide, ?_⟩, ⟨by decide, ?_⟩, ⟨by decide, ?_⟩, ⟨by decide, ?_⟩, ⟨by decide, ?_⟩, ⟨by decide, ?_⟩, ⟨by decide, ?_⟩, ⟨by decide, ?_⟩, ⟨by decide, ?_⟩, ⟨by decide, ?_⟩, ⟨by decide, ?_⟩, fun f hf => nomatch hf⟩ <;> walk_at "OKAT"
end Mine
end

section
open PySem PySem.W PyProof.Rows
namespace Mine
open PySem.Calls PySem.NumText
/-- a field's number, beside its text -/
def KV (v k : Value) (N : Num) : Prop := (∃ n u, N.1 = some n ∧ k = .int n u) ∨ (N.1 = none ∧ k = .none ∧ (∃ u, v = .str N.2 u) ∧ N.2.length ≤ 100 ∧ noNumber N.2 = noNoText N.2)
def KM (k : Value) (M : Option Int) : Prop := ∃ n u, k = .int n u ∧ (∀ mo, M = some mo → n = mo ∧ 1 ≤ mo ∧ mo ≤ 12) ∧ (M = none → n < 1 ∨ 12 < n)
theorem numFld_arg {a b : Int} {f : Fld} {N : Num} {v k : Value} (h : NumFld false a b f N) (hv : IsT f.1 v) (hk : IsN f.2 k) : IntArg v N.1 N.2 ∧ InB N a b ∧ KV v k N := by
  cases h with
  | num x n h1 h2 h3 =>
    obtain ⟨u, rfl⟩ := hv
    obtain ⟨t, rfl⟩ := hk
    exact ⟨.inr ⟨x, u, rfl, h1⟩, fun m e => by cases e; exact h2, .inl ⟨n, t, rfl, rfl⟩⟩
  | bad x h1 h2 h3 =>
    obtain ⟨u, rfl⟩ := hv
    have hk' : k = .none := hk
    subst hk'
    exact ⟨⟨u, rfl, h1⟩, (fun m e => by cases e), .inr ⟨rfl, rfl, ⟨u, rfl⟩, h2, h3⟩⟩
  | miss e => cases e
theorem numFld_clock {a b : Int} {f : Fld} {N : Num} {v k : Value} (hab : a ≤ 0 ∧ 0 ≤ b) (h : NumFld true a b f N) (hv : IsT f.1 v) (hk : IsN f.2 k) : ClockArg v N ∧ InB N a b ∧ KV v k N := by
  cases h with
  | num x n h1 h2 h3 =>
    obtain ⟨u, rfl⟩ := hv
    obtain ⟨t, rfl⟩ := hk
    exact ⟨.inr ⟨⟨x, u, rfl⟩, .inr ⟨x, u, rfl, h1⟩⟩, fun m e => by cases e; exact h2, .inl ⟨n, t, rfl, rfl⟩⟩
  | bad x h1 h2 h3 =>
    obtain ⟨u, rfl⟩ := hv
    have hk' : k = .none := hk
    subst hk'
    exact ⟨.inr ⟨⟨x, u, rfl⟩, ⟨u, rfl, h1⟩⟩, (fun m e => by cases e), .inr ⟨rfl, rfl, ⟨u, rfl⟩, h2, h3⟩⟩
  | miss e =>
    obtain ⟨t, rfl⟩ := hk
    have hv' : v = .none := hv
    subst hv'
    exact ⟨.inl ⟨rfl, rfl⟩, fun m e => by cases e; exact hab, .inl ⟨0, t, rfl, rfl⟩⟩
theorem monFld_arg {f : Fld} {M : Option Int} {v k : Value} (h : MonFld f M) (hv : IsT f.1 v) (hk : IsN f.2 k) : MonArg v M ∧ KM k M := by
  cases h with
  | named x n h1 h2 h3 =>
    obtain ⟨u, rfl⟩ := hv
    obtain ⟨t, rfl⟩ := hk
    have hlt : (n - 1).toNat < 12 := (List.getElem?_eq_some_iff.mp h2).1
    refine ⟨?_, n, t, rfl, fun mo e => by cases e; omega, fun e => by cases e⟩
    have := MonArg.named x u (n - 1).toNat h1 h2
    rwa [show (((n - 1).toNat : Nat) : Int) + 1 = n from by omega] at this
  | num x n h1 h2 h3 =>
    obtain ⟨u, rfl⟩ := hv
    obtain ⟨t, rfl⟩ := hk
    exact ⟨.num x u n h1.len h1.ni h1.q h1.q' h2 h3, n, t, rfl, fun mo e => by cases e; exact ⟨rfl, h3⟩, fun e => by cases e⟩
  | out x n h1 h2 h3 h4 =>
    obtain ⟨u, rfl⟩ := hv
    obtain ⟨t, rfl⟩ := hk
    exact ⟨.out x u n h1.len h1.ni h1.q h1.q' h2 h3 h4, n, t, rfl, (fun mo e => by cases e), fun _ => h3⟩
  | bad x n h1 h2 h3 =>
    obtain ⟨u, rfl⟩ := hv
    obtain ⟨t, rfl⟩ := hk
    exact ⟨.bad x u h1.len h1.ni h1.q h1.q' h2, n, t, rfl, (fun mo e => by cases e), fun _ => h3⟩

theorem LeafH.mono {w : World} {loose mean mg mb} {f : Addr} {n : List (Addr × Obj)} {vs : List Value} {R R' : Value → Heap → Prop} (h : LeafH w loose mean mg mb f n vs R) (hr : ∀ v h, R v h → R' v h) : LeafH w loose mean mg mb f n vs R' := by
  intro dp un gd cn cs a ccd cl outer A₀ base h₀ L m s Q E B F X N T hk hd hu hret
  exact h dp un gd cn cs a ccd cl outer A₀ base h₀ L m s Q E B F X N T hk hd hu fun v h' tk k r => hret v h' tk k (hr v h' r)

theorem due_judged (w : World) {loose mean mg mb} (l a0 a1 a2 a3 a4 a5 : Addr) (n : Nat) (v0 v1 v2 v3 v4 v5 k0 k1 k2 k3 k4 k5 : Value) (Y D H I C : Num) (M : Option Int)
    (hY : KV v2 k2 Y) (hM : KM k1 M) (hD : KV v0 k0 D) (hH : KV v3 k3 H) (hI : KV v4 k4 I) (hC : KV v5 k5 C) (yo : YearOk Y)
    (bD : InB D (-1) 100) (bH : InB H (-1) 100) (bI : InB I 0 100) (bC : InB C 0 100) :
    LeafH w loose mean mg mb 149 [(l, listOf [Value.ref a0, .ref a1, .ref a2, .ref a3, .ref a4, .ref a5].toArray n), (a0, tupOf [v0, k0]), (a1, tupOf [v1, k1]), (a2, tupOf [v2, k2]), (a3, tupOf [v3, k3]), (a4, tupOf [v4, k4]), (a5, tupOf [v5, k5])] [.ref l] (fun v _ => ToldV (judged dueZ Y M D H I C) v) := by
  have bad : ∀ {x : PySem.Str}, noNumber x = noNoText x → ∀ v : Value, (∃ u, v = .str (noNoText x) u) → ToldV (.bad x) v := fun e v ⟨u, h⟩ => ⟨u, by rw [h, e]⟩
  obtain ⟨Y1, Y2⟩ := Y
  rcases hY with ⟨y, t2, e, rfl⟩ | ⟨e, rfl, ⟨u, rfl⟩, hx, hq⟩
  case inr =>
    obtain rfl : Y1 = none := e
    exact (due_ctY w l a0 a1 a2 a3 a4 a5 n Y2 u hx k0 k1 k3 k4 k5 v0 v1 v3 v4 v5).mono fun v _ h => bad hq v h
  obtain rfl : Y1 = some y := e
  obtain ⟨mo', t1, rfl, hm1, hm2⟩ := hM
  by_cases hy9 : y ≤ 9999
  case neg =>
    refine (due_ctO w l a0 a1 a2 a3 a4 a5 n mo' y t1 t2 k0 k3 k4 k5 v0 v1 v2 v3 v4 v5 (by omega)).mono fun v _ h => ?_
    rw [judged, show (some y, Y2).1 = some y from rfl]
    dsimp only
    rw [if_pos (by omega)]
    exact h
  cases M with
  | none =>
    refine (due_ctO w l a0 a1 a2 a3 a4 a5 n mo' y t1 t2 k0 k3 k4 k5 v0 v1 v2 v3 v4 v5 (by have := hm2 rfl; omega)).mono fun v _ h => ?_
    rw [judged_none]
    exact h
  | some mo =>
    obtain ⟨rfl, hmo⟩ := hm1 mo rfl
    rcases hD with ⟨d, t0, eD, rfl⟩ | ⟨eD, rfl, ⟨u, rfl⟩, hx, hq⟩
    case inr =>
      rw [judged_D hy9 eD]
      exact (due_ctD w l a0 a1 a2 a3 a4 a5 n D.2 u hx mo' y t1 t2 k3 k4 k5 v1 v2 v3 v4 v5 hmo hy9).mono fun v _ h => bad hq v h
    rcases hH with ⟨h, t3, eH, rfl⟩ | ⟨eH, rfl, ⟨u, rfl⟩, hx, hq⟩
    case inr =>
      rw [judged_H hy9 eD eH]
      exact (due_ctH w l a0 a1 a2 a3 a4 a5 n H.2 u hx d mo' y t0 t1 t2 k4 k5 v0 v1 v2 v4 v5 hmo hy9).mono fun v _ h => bad hq v h
    rcases hI with ⟨mi, t4, eI, rfl⟩ | ⟨eI, rfl, ⟨u, rfl⟩, hx, hq⟩
    case inr =>
      rw [judged_I hy9 eD eH eI]
      exact (due_ctM w l a0 a1 a2 a3 a4 a5 n I.2 u hx d mo' y h t0 t1 t2 t3 k5 v0 v1 v2 v3 v5 hmo hy9).mono fun v _ h => bad hq v h
    rcases hC with ⟨se, t5, eC, rfl⟩ | ⟨eC, rfl, ⟨u, rfl⟩, hx, hq⟩
    case inr =>
      rw [judged_C hy9 eD eH eI eC]
      exact (due_ctS w l a0 a1 a2 a3 a4 a5 n C.2 u hx d mo' y h mi t0 t1 t2 t3 t4 v0 v1 v2 v3 v4 hmo hy9).mono fun v _ h => bad hq v h
    rcases yo y rfl with hy | rfl | hy
    · refine (due_ctI w l a0 a1 a2 a3 a4 a5 n d mo' y h mi se t0 t1 t2 t3 t4 t5 v0 v1 v2 v3 v4 v5 (bD d eD) hmo hy (bH h eH) (bI mi eI) (bC se eC)).mono fun v _ hv => ?_
      cases hin : inR d y h mi se with
      | true => rw [judged_T hy9 eD eH eI eC hin]; exact hv.1 hin
      | false => rw [judged_F hy9 eD eH eI eC hin]; exact hv.2 hin
    · refine (due_ct69 w l a0 a1 a2 a3 a4 a5 n d mo' h mi se t0 t1 t2 t3 t4 t5 v0 v1 v2 v3 v4 v5 hmo).mono fun v _ hv => ?_
      rw [judged_F hy9 eD eH eI eC (inR_f (by omega))]
      exact hv
    · exact absurd hy (by omega)

theorem ord_first (y mo : Int) (hy : y ∈ yearsL) (hm : 1 ≤ mo ∧ mo ≤ 12) : Builtin._datetime.toOrdinal y mo 1 - 719163 = firstZ y mo := by
  obtain ⟨k, e⟩ := Int.eq_ofNat_of_zero_le (show 0 ≤ mo - 1 by omega)
  have hk : k < 12 := by omega
  have e' : mo = (k : Int) + 1 := by omega
  subst e'
  exact (by decide : ∀ y ∈ yearsL, ∀ k : Nat, k < 12 → Builtin._datetime.toOrdinal y ((k : Int) + 1) 1 - 719163 = firstZ y ((k : Int) + 1)) y hy k hk
theorem gm_due {d mo y h mi se : Int} (hy : y ∈ yearsL) (hm : 1 ≤ mo ∧ mo ≤ 12) : gmZ d mo y h mi se = dueZ d mo y h mi se := by
  have e := ord_first y mo hy hm
  rw [← ordZ_eq] at e
  unfold gmZ dueZ
  rw [← e]
  omega
theorem judged_same {Y D H I C : Num} {M : Option Int} (yo : YearOk Y) (hm : ∀ mo, M = some mo → 1 ≤ mo ∧ mo ≤ 12) : judged gmZ Y M D H I C = judged dueZ Y M D H I C := by
  obtain ⟨Y1, Y2⟩ := Y
  cases Y1 with
  | none => rfl
  | some y =>
    by_cases hy9 : y ≤ 9999
    case neg =>
      simp only [judged, if_pos (show y > 9999 by omega)]
    cases M with
    | none => rw [judged_none, judged_none]
    | some mo =>
      cases eD : D.1 with
      | none => rw [judged_D hy9 eD, judged_D hy9 eD]
      | some d =>
        cases eH : H.1 with
        | none => rw [judged_H hy9 eD eH, judged_H hy9 eD eH]
        | some h =>
          cases eI : I.1 with
          | none => rw [judged_I hy9 eD eH eI, judged_I hy9 eD eH eI]
          | some mi =>
            cases eC : C.1 with
            | none => rw [judged_C hy9 eD eH eI eC, judged_C hy9 eD eH eI eC]
            | some se =>
              cases hin : inR d y h mi se with
              | false => rw [judged_F hy9 eD eH eI eC hin, judged_F hy9 eD eH eI eC hin]
              | true =>
                rw [judged_T hy9 eD eH eI eC hin, judged_T hy9 eD eH eI eC hin]
                rcases yo y rfl with hy | rfl | hy
                · rw [gm_due hy (hm mo rfl)]
                · exfalso
                  simp [inR] at hin
                · omega
end Mine
end

section
open PySem PySem.W PyProof.Rows
namespace Mine
open Sem (wp)
open PySem.Calls
section
variable {g g' h : Heap} {L : Addr} {m : PySem.Str → Option Value} {news : List (Addr × Obj)}
theorem fr_nil (T : KtsTurn [] g g') (F : Fr g' L h m) : Fr g L h m := ⟨F.ns, fun b o e => F.keep b o (T.other b o e (by simp)), by rw [← T.size]; exact F.above⟩
theorem news_nil (T : KtsTurn [] g g') (N : News g' L h news) : News g L h news := fun p hp => ⟨(N p hp).1, (N p hp).2.1, by
  cases q : g.get? p.1 with
  | none => rfl
  | some o =>
    have := T.other _ _ q (by simp)
    rw [(N p hp).2.2] at this
    cases this⟩
end

section
variable {prog : Program} {w : World} {A : Around} {E : Value → Shared → Prop} {R : Result → Shared → Prop} {s : Shared} {h₀ : Heap} {L a : Addr} {m : PySem.Str → Option Value} {news : List (Addr × Obj)} {name : PySem.Str} {scope : Scope} {cd : Value} {x : PySem.Str} {p : Pos} {body : List Stmt}
/-- for x in xs: .. : the turns -/
theorem codeC_forList {l it : Addr} {vs : List Value} {n : Nat} (hh : A.handled = none) (hm : (l, listOf vs.toArray n) ∈ news) (hoff : ∀ q ∈ news, q.1 ≠ it) (hit0 : h₀.get? it = none) (hitL : it ≠ L)
    (J : Nat → (PySem.Str → Option Value) → Prop) (hk : scope.kind = .function) (hl : (envOf name scope L a cd).kindOf x = some .local)
    (turn : ∀ i v m' oI h tk, vs[i]? = some v → J i m' → Fr h₀ L h (fun y => if y = x then some v else m' y) → News h₀ L h ((it, oI) :: news) →
      wpC (model prog w) A (execs body (envOf name scope L a cd)) (fun f s₃ => match f with
        | .next | .cont => ∃ h' tk' m'', s₃ = { s with heap := h', toks := tk' } ∧ Fr h₀ L h' m'' ∧ News h₀ L h' ((it, oI) :: news) ∧ J (i + 1) m''
        | .brk => False
        | .ret v => R (.ok (.ret v)) s₃) (fun _ _ => False) { s with heap := h, toks := tk })
    (fin : ∀ m' h tk, J vs.length m' → Fr h₀ L h m' → News h₀ L h news → R (.ok .next) { s with heap := h, toks := tk })
    {h1 : Heap} {tk1 : Nat} {m1 : PySem.Str → Option Value} {oI : Obj} (F : Fr h₀ L h1 m1) (N : News h₀ L h1 ((it, oI) :: news)) (hc : oI.cls = .type "list_iterator") (hd : oI.data = .fields #[.ref l, .int 0 0]) (hJ : J 0 m1) :
    codeC (model prog w) A (.forLoop (.Name x p) (.ref it) body [] (envOf name scope L a cd)) R { s with heap := h1, toks := tk1 } := by
  refine codeC_forLoop (fun k s' => ∃ i h tk m' oI, k = vs.length - i ∧ i ≤ vs.length ∧ s' = { s with heap := h, toks := tk } ∧ J i m' ∧ Fr h₀ L h m' ∧ News h₀ L h ((it, oI) :: news) ∧ oI.cls = .type "list_iterator" ∧ oI.data = .fields #[.ref l, .int (i : Nat) 0]) ?_ (vs.length - 0) ⟨0, h1, tk1, m1, oI, rfl, Nat.zero_le _, rfl, hJ, F, N, hc, hd⟩
  rintro k s' ⟨i, h, tk, m', oI, rfl, hi, rfl, hJi, Fi, Ni, hci, hdi⟩
  have hiter : ({ s with heap := h, toks := tk } : Shared).heap.IsListIter it l i := ⟨oI, (Ni _ (List.Mem.head _)).1, hci, hdi⟩
  have hlist : ({ s with heap := h, toks := tk } : Shared).heap.IsList l vs.toArray := ⟨_, (Ni _ (List.Mem.tail _ hm)).1, rfl, _, rfl⟩
  by_cases hlt : i < vs.length
  · refine wpAny_pyNext_list_item hiter hlist (x := vs[i]) (by simp [hlt]) fun h' hit' hs' => ?_
    obtain ⟨oJ, hJ1, hJ2, hJ3⟩ := hit'
    have F' : Fr h₀ L h' m' := Fi.change hs' hitL hit0
    have N' : News h₀ L h' ((it, oJ) :: news) := fun q hq => by
      rcases List.mem_cons.mp hq with rfl | hq
      · exact ⟨hJ1, hitL, hit0⟩
      · exact ⟨(hs'.2 _ (hoff q hq)).trans (Ni _ (List.Mem.tail _ hq)).1, (Ni _ (List.Mem.tail _ hq)).2⟩
    dsimp only
    refine wpAny_bind (m := standAt p) (wpAny_standAt (wpAny_bindName ?_))
    refine stN (s := { s with heap := h', toks := tk }) F' N' (fun h₂ F₂ N₂ => ?_) hk hl
    refine wpC_mono (turn i vs[i] m' oJ h₂ _ (List.getElem?_eq_getElem hlt) hJi F₂ N₂) (fun f s₃ hf => ?_) fun _ _ z => z.elim
    have step : (∃ h' tk' m'', s₃ = { s with heap := h', toks := tk' } ∧ Fr h₀ L h' m'' ∧ News h₀ L h' ((it, oJ) :: news) ∧ J (i + 1) m'') → ∃ k, k < vs.length - i ∧ ∃ i h tk m' oI, k = vs.length - i ∧ i ≤ vs.length ∧ s₃ = { s with heap := h, toks := tk } ∧ J i m' ∧ Fr h₀ L h m' ∧ News h₀ L h ((it, oI) :: news) ∧ oI.cls = .type "list_iterator" ∧ oI.data = .fields #[.ref l, .int (i : Nat) 0] := by
      rintro ⟨h', tk', m'', e, F3, N3, J3⟩
      exact ⟨vs.length - (i + 1), by omega, i + 1, h', tk', m'', oJ, rfl, by omega, e, J3, F3, N3, hJ2, hJ3⟩
    cases f with
    | next => exact step hf
    | cont => exact step hf
    | brk => exact hf.elim
    | ret v => exact hf
  · obtain rfl : i = vs.length := by omega
    refine wpAny_pyNext_list_end hh hiter hlist (by simp) fun h' hs' => ?_
    dsimp only
    refine wpC_execs_nil ?_
    obtain ⟨oL, es, ep, hL, hLd⟩ := Fi.ns
    refine fin m' h' tk hJi ⟨⟨oL, es, ep, hs' _ _ hitL.symm hL, hLd⟩, fun b o e => hs' b o (fun q => by rw [q, hit0] at e; cases e) (Fi.keep b o e), Fi.above⟩ fun q hq => ⟨hs' _ _ (hoff q hq) (Ni _ (List.Mem.tail _ hq)).1, (Ni _ (List.Mem.tail _ hq)).2⟩
end

section
variable {prog : Program} {w : World} {A : Around} {E : Value → Shared → Prop} {R : Result → Shared → Prop} {s : Shared} {h₀ : Heap} {L a : Addr} {m : PySem.Str → Option Value} {news : List (Addr × Obj)} {name : PySem.Str} {scope : Scope} {cd : Value} {x : PySem.Str} {p : Pos} {body : List Stmt}
/-- for x in xs: .. : the turns -/
theorem codeC_forTuple {l it : Addr} {vs : List Value} (hh : A.handled = none) (hm : (l, tupOf vs) ∈ news) (hoff : ∀ q ∈ news, q.1 ≠ it) (hit0 : h₀.get? it = none) (hitL : it ≠ L)
    (J : Nat → (PySem.Str → Option Value) → Prop) (hk : scope.kind = .function) (hl : (envOf name scope L a cd).kindOf x = some .local)
    (turn : ∀ i v m' oI h tk, vs[i]? = some v → J i m' → Fr h₀ L h (fun y => if y = x then some v else m' y) → News h₀ L h ((it, oI) :: news) →
      wpC (model prog w) A (execs body (envOf name scope L a cd)) (fun f s₃ => match f with
        | .next | .cont => ∃ h' tk' m'', s₃ = { s with heap := h', toks := tk' } ∧ Fr h₀ L h' m'' ∧ News h₀ L h' ((it, oI) :: news) ∧ J (i + 1) m''
        | .brk => False
        | .ret v => R (.ok (.ret v)) s₃) (fun _ _ => False) { s with heap := h, toks := tk })
    (fin : ∀ m' h tk, J vs.length m' → Fr h₀ L h m' → News h₀ L h news → R (.ok .next) { s with heap := h, toks := tk })
    {h1 : Heap} {tk1 : Nat} {m1 : PySem.Str → Option Value} {oI : Obj} (F : Fr h₀ L h1 m1) (N : News h₀ L h1 ((it, oI) :: news)) (hc : oI.cls = .type "tuple_iterator") (hd : oI.data = .fields #[.ref l, .int 0 0]) (hJ : J 0 m1) :
    codeC (model prog w) A (.forLoop (.Name x p) (.ref it) body [] (envOf name scope L a cd)) R { s with heap := h1, toks := tk1 } := by
  refine codeC_forLoop (fun k s' => ∃ i h tk m' oI, k = vs.length - i ∧ i ≤ vs.length ∧ s' = { s with heap := h, toks := tk } ∧ J i m' ∧ Fr h₀ L h m' ∧ News h₀ L h ((it, oI) :: news) ∧ oI.cls = .type "tuple_iterator" ∧ oI.data = .fields #[.ref l, .int (i : Nat) 0]) ?_ (vs.length - 0) ⟨0, h1, tk1, m1, oI, rfl, Nat.zero_le _, rfl, hJ, F, N, hc, hd⟩
  rintro k s' ⟨i, h, tk, m', oI, rfl, hi, rfl, hJi, Fi, Ni, hci, hdi⟩
  have hiter : ({ s with heap := h, toks := tk } : Shared).heap.IsTupleIter it l i := ⟨oI, (Ni _ (List.Mem.head _)).1, hci, hdi⟩
  have hlist : ({ s with heap := h, toks := tk } : Shared).heap.IsTuple l vs.toArray := ⟨_, (Ni _ (List.Mem.tail _ hm)).1, rfl, _, rfl⟩
  by_cases hlt : i < vs.length
  · refine wpAny_pyNext_tuple_item hiter hlist (x := vs[i]) (by simp [hlt]) fun h' hit' hs' => ?_
    obtain ⟨oJ, hJ1, hJ2, hJ3⟩ := hit'
    have F' : Fr h₀ L h' m' := Fi.change hs' hitL hit0
    have N' : News h₀ L h' ((it, oJ) :: news) := fun q hq => by
      rcases List.mem_cons.mp hq with rfl | hq
      · exact ⟨hJ1, hitL, hit0⟩
      · exact ⟨(hs'.2 _ (hoff q hq)).trans (Ni _ (List.Mem.tail _ hq)).1, (Ni _ (List.Mem.tail _ hq)).2⟩
    dsimp only
    refine wpAny_bind (m := standAt p) (wpAny_standAt (wpAny_bindName ?_))
    refine stN (s := { s with heap := h', toks := tk }) F' N' (fun h₂ F₂ N₂ => ?_) hk hl
    refine wpC_mono (turn i vs[i] m' oJ h₂ _ (List.getElem?_eq_getElem hlt) hJi F₂ N₂) (fun f s₃ hf => ?_) fun _ _ z => z.elim
    have step : (∃ h' tk' m'', s₃ = { s with heap := h', toks := tk' } ∧ Fr h₀ L h' m'' ∧ News h₀ L h' ((it, oJ) :: news) ∧ J (i + 1) m'') → ∃ k, k < vs.length - i ∧ ∃ i h tk m' oI, k = vs.length - i ∧ i ≤ vs.length ∧ s₃ = { s with heap := h, toks := tk } ∧ J i m' ∧ Fr h₀ L h m' ∧ News h₀ L h ((it, oI) :: news) ∧ oI.cls = .type "tuple_iterator" ∧ oI.data = .fields #[.ref l, .int (i : Nat) 0] := by
      rintro ⟨h', tk', m'', e, F3, N3, J3⟩
      exact ⟨vs.length - (i + 1), by omega, i + 1, h', tk', m'', oJ, rfl, by omega, e, J3, F3, N3, hJ2, hJ3⟩
    cases f with
    | next => exact step hf
    | cont => exact step hf
    | brk => exact hf.elim
    | ret v => exact hf
  · obtain rfl : i = vs.length := by omega
    refine wpAny_pyNext_tuple_end hh hiter hlist (by simp) fun h' hs' => ?_
    dsimp only
    refine wpC_execs_nil ?_
    obtain ⟨oL, es, ep, hL, hLd⟩ := Fi.ns
    refine fin m' h' tk hJi ⟨⟨oL, es, ep, hs' _ _ hitL.symm hL, hLd⟩, fun b o e => hs' b o (fun q => by rw [q, hit0] at e; cases e) (Fi.keep b o e), Fi.above⟩ fun q hq => ⟨hs' _ _ (hoff q hq) (Ni _ (List.Mem.tail _ hq)).1, (Ni _ (List.Mem.tail _ hq)).2⟩
end
section
variable {prog : Program} {w : World} {s : Shared} {p : Program} {loose : List PySem.Str} {mean : ExcName → Option Value} {mg mb : PySem.Str → Option Value}
  {Q : Value → Shared → Prop} {E : Value → Shared → Prop} {name qual : PySem.Str} {params : Arguments} {body : List Stmt} {scope : Scope} {dV kV doc pm cdv ct : Value} {an : Option Addr} {f : Addr} {o : Obj} {vs : List Value} {binds : List (PySem.Str × Value)}
/-- the law is entered -/
theorem law_enter (T : Top p loose mean mg mb s.heap) (ho : s.heap.get? f = some o) (hd : o.data = .func (fnOf name qual params body scope dV kV doc pm an cdv ct)) (hcd : s.heap.CodeRec cdv qual)
    (hbind : BindsTo s (fnOf name qual params body scope dV kV doc pm an cdv ct) ⟨vs, []⟩ binds) (hloc : ∀ y ∈ binds, scope.names.lookup y.1 = some .local)
    (h : ∀ L h₁, Fr s.heap L h₁ (fun y => binds.reverse.lookup y) →
      wpC (model prog w) (callerA.deeper (envOf qual scope L f cdv)) (execs body (envOf qual scope L f cdv)) (fun fl s' => Q (match fl with | .ret v => v | _ => .none) s') (fun _ _ => False) { s with heap := h₁, toks := s.toks + binds.length })
    (hco : scope.isCoroutine = false) (hgen : scope.isGenerator = false) (hk : scope.kind = .function) (hcell : ∀ x ∈ scope.names, x.2 ≠ .cell) : wpC (model prog w) callerA (call (.ref f) vs) Q E s := by
  refine wpC_call ?_
  refine codeC_call_def (fd := fnOf name qual params body scope dV kV doc pm an cdv ct) (body := body) (binds := binds) (by decide +kernel) ho hd T.nolimit hcd rfl hbind hcell hloc (fun h₁ hns hk₁ => ?_) hco hgen hk
  exact wpC_mono (h s.heap.objs.size h₁ ⟨hns, hk₁, Nat.le_refl _⟩) (fun fl s' hl => hl) fun _ _ z => z.elim
end
end Mine
end

section
open PySem PySem.W PyProof.Rows
namespace Mine
open Sem (wp)
open PySem.Calls PySem.NumText
/-- a list of six good fields -/
def Good6 (news : List (Addr × Obj)) (l : Addr) : Prop := ∃ (a0 a1 a2 a3 a4 a5 : Addr) (n : Nat) (f0 f1 f2 f3 f4 f5 : Fld), (l, listOf [Value.ref a0, .ref a1, .ref a2, .ref a3, .ref a4, .ref a5].toArray n) ∈ news ∧
  (FldAt news f0 a0 ∧ OkAt 0 f0) ∧ (FldAt news f1 a1 ∧ OkAt 1 f1) ∧ (FldAt news f2 a2 ∧ OkAt 2 f2) ∧ (FldAt news f3 a3 ∧ OkAt 3 f3) ∧ (FldAt news f4 a4 ∧ OkAt 4 f4) ∧ (FldAt news f5 a5 ∧ OkAt 5 f5)
theorem Good6.mono {n n' : List (Addr × Obj)} {l : Addr} (hs : ∀ p ∈ n, p ∈ n') (h : Good6 n l) : Good6 n' l := by
  obtain ⟨a0, a1, a2, a3, a4, a5, n, f0, f1, f2, f3, f4, f5, hl, h0, h1, h2, h3, h4, h5⟩ := h
  exact ⟨a0, a1, a2, a3, a4, a5, n, f0, f1, f2, f3, f4, f5, hs _ hl, ⟨h0.1.mono hs, h0.2⟩, ⟨h1.1.mono hs, h1.2⟩, ⟨h2.1.mono hs, h2.2⟩, ⟨h3.1.mono hs, h3.2⟩, ⟨h4.1.mono hs, h4.2⟩, ⟨h5.1.mono hs, h5.2⟩⟩
theorem good_fields {news : List (Addr × Obj)} {l : Addr} {Fs : List Fld} {x : Int} (h : FldsAt news Fs l) (e : Fs.map some = fieldsOf x) : Good6 news l := by
  obtain ⟨as, n, hm, hA⟩ := h
  unfold fieldsOf at e
  have hlen : Fs.length = 6 := by
    have := congrArg List.length e
    simpa using this
  match Fs, hlen with
  | [f0, f1, f2, f3, f4, f5], _ =>
    simp only [List.map_cons, List.map_nil, List.cons.injEq, and_true] at e
    obtain ⟨e0, e1, e2, e3, e4, e5⟩ := e
    rcases hA with _ | ⟨h0, hA⟩
    rcases hA with _ | ⟨h1, hA⟩
    rcases hA with _ | ⟨h2, hA⟩
    rcases hA with _ | ⟨h3, hA⟩
    rcases hA with _ | ⟨h4, hA⟩
    rcases hA with _ | ⟨h5, hA⟩
    cases hA
    exact ⟨_, _, _, _, _, _, n, f0, f1, f2, f3, f4, f5, hm, ⟨h0, days_ok _ (List.mem_of_getElem? e0.symm)⟩, ⟨h1, months_ok _ (List.mem_of_getElem? e1.symm)⟩, ⟨h2, years_ok _ (List.mem_of_getElem? e2.symm)⟩,
      ⟨h3, hours_ok _ (List.mem_of_getElem? e3.symm)⟩, ⟨h4, minutes_ok _ (List.mem_of_getElem? e4.symm)⟩, ⟨h5, seconds_ok _ (List.mem_of_getElem? e5.symm)⟩⟩
/-- a spoil's tuple -/
def SpoilAt (news : List (Addr × Obj)) (a : Addr) : Prop := ∃ (p : Spo) (tp vt vn : Value), (a, tupOf [tp, vt, vn]) ∈ news ∧ IsN (some p.1) tp ∧ IsT p.2.1 vt ∧ IsN p.2.2 vn ∧ (0 ≤ p.1 ∧ p.1 < 6) ∧ OkAt p.1.toNat p.2
theorem SpoilAt.mono {n n' : List (Addr × Obj)} {l : Addr} (hs : ∀ p ∈ n, p ∈ n') (h : SpoilAt n l) : SpoilAt n' l := by
  obtain ⟨p, tp, vt, vn, hm, r⟩ := h
  exact ⟨p, tp, vt, vn, hs _ hm, r⟩
theorem spoil_of {news : List (Addr × Obj)} {as : List Addr} (h : TupsAt news (spoilsM.map spoP) as) {i : Nat} {a : Addr} (ha : as[i]? = some a) : SpoilAt news a := by
  have hlt : i < spoilsM.length := by
    have := (List.getElem?_eq_some_iff.mp ha).1
    rw [← h.length_eq, List.length_map] at this
    exact this
  obtain ⟨b, hb, vs, hm, hv⟩ := h.get (i := i) (a := spoP spoilsM[i]) (by simp [hlt])
  rw [ha] at hb
  cases hb
  have ok := spoils_ok _ (List.getElem_mem hlt)
  generalize spoilsM[i] = p at hv ok
  cases hv with
  | cons h1 hr => cases hr with
    | cons h2 hr => cases hr with
      | cons h3 hr => cases hr; exact ⟨p, _, _, _, hm, h1, h2, h3, ok.1, ok.2⟩
theorem fld_new {news : List (Addr × Obj)} {a : Addr} {f : Fld} {vt vn : Value} (hm : (a, tupOf [vt, vn]) ∈ news) (h1 : IsT f.1 vt) (h2 : IsN f.2 vn) : FldAt news f a := ⟨vt, vn, hm, h1, h2⟩
theorem spoiled_any (w : World) {loose mean mg mb} {news : List (Addr × Obj)} (l sp : Addr) (hl : Good6 news l) (hs : SpoilAt news sp) :
    LeafCt w loose mean mg mb 161 news [.ref l, .ref sp] (fun v news' => (∀ p ∈ news, p ∈ news') ∧ ∃ l', v = .ref l' ∧ Good6 news' l') := by
  obtain ⟨a0, a1, a2, a3, a4, a5, n, f0, f1, f2, f3, f4, f5, hl, h0, h1, h2, h3, h4, h5⟩ := hl
  obtain ⟨⟨j, f⟩, tp, vt, vn, hm, ⟨t, rfl⟩, it, inn, hj, ok⟩ := hs
  dsimp only at hm it inn hj ok
  have mono : ∀ {R R' : Value → List (Addr × Obj) → Prop}, LeafCt w loose mean mg mb 161 news [.ref l, .ref sp] R → (∀ v n', R v n' → R' v n') → LeafCt w loose mean mg mb 161 news [.ref l, .ref sp] R' := by
    intro R R' h hr dp un gd cn cs a ccd cl outer A₀ base h₀ L m s Q E B F X N T hk hd hu hret
    exact h dp un gd cn cs a ccd cl outer A₀ base h₀ L m s Q E B F X N T hk hd hu fun v n' h' tk F' N' r => hret v n' h' tk F' N' (hr v n' r)
  obtain ⟨k, rfl⟩ := Int.eq_ofNat_of_zero_le hj.1
  have hk : k < 6 := by omega
  have ok' : OkAt k f := ok
  have cases6 : k = 0 ∨ k = 1 ∨ k = 2 ∨ k = 3 ∨ k = 4 ∨ k = 5 := by omega
  rcases cases6 with rfl | rfl | rfl | rfl | rfl | rfl
  · refine mono (spoiled_ct0 w l sp a0 a1 a2 a3 a4 a5 n t vt vn hl hm) ?_
    rintro v n' ⟨sub, l', a', n2, rfl, hl', ha'⟩
    exact ⟨sub, l', rfl, a', a1, a2, a3, a4, a5, n2, f, f1, f2, f3, f4, f5, hl', ⟨fld_new ha' it inn, ok'⟩, ⟨h1.1.mono sub, h1.2⟩, ⟨h2.1.mono sub, h2.2⟩, ⟨h3.1.mono sub, h3.2⟩, ⟨h4.1.mono sub, h4.2⟩, ⟨h5.1.mono sub, h5.2⟩⟩
  · refine mono (spoiled_ct1 w l sp a0 a1 a2 a3 a4 a5 n t vt vn hl hm) ?_
    rintro v n' ⟨sub, l', a', n2, rfl, hl', ha'⟩
    exact ⟨sub, l', rfl, a0, a', a2, a3, a4, a5, n2, f0, f, f2, f3, f4, f5, hl', ⟨h0.1.mono sub, h0.2⟩, ⟨fld_new ha' it inn, ok'⟩, ⟨h2.1.mono sub, h2.2⟩, ⟨h3.1.mono sub, h3.2⟩, ⟨h4.1.mono sub, h4.2⟩, ⟨h5.1.mono sub, h5.2⟩⟩
  · refine mono (spoiled_ct2 w l sp a0 a1 a2 a3 a4 a5 n t vt vn hl hm) ?_
    rintro v n' ⟨sub, l', a', n2, rfl, hl', ha'⟩
    exact ⟨sub, l', rfl, a0, a1, a', a3, a4, a5, n2, f0, f1, f, f3, f4, f5, hl', ⟨h0.1.mono sub, h0.2⟩, ⟨h1.1.mono sub, h1.2⟩, ⟨fld_new ha' it inn, ok'⟩, ⟨h3.1.mono sub, h3.2⟩, ⟨h4.1.mono sub, h4.2⟩, ⟨h5.1.mono sub, h5.2⟩⟩
  · refine mono (spoiled_ct3 w l sp a0 a1 a2 a3 a4 a5 n t vt vn hl hm) ?_
    rintro v n' ⟨sub, l', a', n2, rfl, hl', ha'⟩
    exact ⟨sub, l', rfl, a0, a1, a2, a', a4, a5, n2, f0, f1, f2, f, f4, f5, hl', ⟨h0.1.mono sub, h0.2⟩, ⟨h1.1.mono sub, h1.2⟩, ⟨h2.1.mono sub, h2.2⟩, ⟨fld_new ha' it inn, ok'⟩, ⟨h4.1.mono sub, h4.2⟩, ⟨h5.1.mono sub, h5.2⟩⟩
  · refine mono (spoiled_ct4 w l sp a0 a1 a2 a3 a4 a5 n t vt vn hl hm) ?_
    rintro v n' ⟨sub, l', a', n2, rfl, hl', ha'⟩
    exact ⟨sub, l', rfl, a0, a1, a2, a3, a', a5, n2, f0, f1, f2, f3, f, f5, hl', ⟨h0.1.mono sub, h0.2⟩, ⟨h1.1.mono sub, h1.2⟩, ⟨h2.1.mono sub, h2.2⟩, ⟨h3.1.mono sub, h3.2⟩, ⟨fld_new ha' it inn, ok'⟩, ⟨h5.1.mono sub, h5.2⟩⟩
  · refine mono (spoiled_ct5 w l sp a0 a1 a2 a3 a4 a5 n t vt vn hl hm) ?_
    rintro v n' ⟨sub, l', a', n2, rfl, hl', ha'⟩
    exact ⟨sub, l', rfl, a0, a1, a2, a3, a4, a', n2, f0, f1, f2, f3, f4, f, hl', ⟨h0.1.mono sub, h0.2⟩, ⟨h1.1.mono sub, h1.2⟩, ⟨h2.1.mono sub, h2.2⟩, ⟨h3.1.mono sub, h3.2⟩, ⟨h4.1.mono sub, h4.2⟩, ⟨fld_new ha' it inn, ok'⟩⟩

/-- what is told and what is due of six good fields are one -/
theorem told_due {news : List (Addr × Obj)} {l : Addr} (hl : Good6 news l) {vz : Value} (hz : ZoneArg vz) : ∃ o : Out,
    (∀ (w : World) {loose mean mg mb}, ∃ (a0 a1 a2 a3 a4 a5 : Addr) (n : Nat) (vd vm vy vh vi vc k0 k1 k2 k3 k4 k5 : Value), (l, listOf [Value.ref a0, .ref a1, .ref a2, .ref a3, .ref a4, .ref a5].toArray n) ∈ news ∧ (a0, tupOf [vd, k0]) ∈ news ∧ (a1, tupOf [vm, k1]) ∈ news ∧ (a2, tupOf [vy, k2]) ∈ news ∧ (a3, tupOf [vh, k3]) ∈ news ∧ (a4, tupOf [vi, k4]) ∈ news ∧ (a5, tupOf [vc, k5]) ∈ news ∧
      (∀ news', S2Ct w loose mean mg mb news' [vd, vm, vy, vh, vi, vc, vz] o) ∧ LeafH w loose mean mg mb 149 news [.ref l] (fun v _ => ToldV o v)) := by
  obtain ⟨a0, a1, a2, a3, a4, a5, n, f0, f1, f2, f3, f4, f5, hl, ⟨⟨v0, k0, p0, t0, n0⟩, ⟨D, d⟩⟩, ⟨⟨v1, k1, p1, t1, n1⟩, ⟨M, mm⟩⟩, ⟨⟨v2, k2, p2, t2, n2⟩, ⟨Y, y, yo⟩⟩, ⟨⟨v3, k3, p3, t3, n3⟩, ⟨H, h⟩⟩, ⟨⟨v4, k4, p4, t4, n4⟩, ⟨I, i⟩⟩, ⟨⟨v5, k5, p5, t5, n5⟩, ⟨C, c⟩⟩⟩ := hl
  have d' := numFld_arg d t0 n0
  have m' := monFld_arg mm t1 n1
  have y' := numFld_arg y t2 n2
  have h' := numFld_clock (by decide) h t3 n3
  have i' := numFld_clock (by decide) i t4 n4
  have c' := numFld_clock (by decide) c t5 n5
  refine ⟨judged gmZ Y M D H I C, fun w {loose mean mg mb} => ⟨a0, a1, a2, a3, a4, a5, n, v0, v1, v2, v3, v4, v5, k0, k1, k2, k3, k4, k5, hl, p0, p1, p2, p3, p4, p5, fun news' => ?_, ?_⟩⟩
  · exact s2t_C w v0 v1 v2 v3 v4 v5 vz Y D H I C M y'.1 m'.1 d'.1 h'.1 i'.1 c'.1 hz y'.2.1 d'.2.1 h'.2.1 i'.2.1 c'.2.1
  · obtain ⟨nn, uu, hk1, hm1, hm2⟩ := m'.2
    rw [judged_same yo fun mo e => (hm1 mo e).2]
    refine (due_judged w l a0 a1 a2 a3 a4 a5 n v0 v1 v2 v3 v4 v5 k0 k1 k2 k3 k4 k5 Y D H I C M y'.2.2 ⟨nn, uu, hk1, hm1, hm2⟩ d'.2.2 h'.2.2 i'.2.2 c'.2.2 yo d'.2.1 h'.2.1 i'.2.1 c'.2.1).drop ?_
    intro q hq
    simp only [List.mem_cons, List.not_mem_nil, or_false] at hq
    rcases hq with rfl | rfl | rfl | rfl | rfl | rfl | rfl <;> assumption
end Mine
end

section
open PySem PySem.W PyProof.Rows
namespace Mine
open Sem (wp)
open PySem.Calls PySem.NumText PySem.MeetsSeq
local macro_rules | `(tactic| walk_at "execs cons") => `(tactic| (k_here; (with_reducible refine gen_toks ?_); intro tk'))
local macro_rules | `(tactic| walk_at "execs nil") => `(tactic| (k_here; (with_reducible refine gen_toks ?_); intro tk'))
abbrev mpL (sc zo sp x pl on tw fi : Option Value) : PySem.Str → Option Value := fun z =>
  if z = PySem.Str.ofString "script" then sc else if z = PySem.Str.ofString "zones" then zo else if z = PySem.Str.ofString "spoils" then sp else if z = PySem.Str.ofString "x" then x else if z = PySem.Str.ofString "plain" then pl else if z = PySem.Str.ofString "once" then on else if z = PySem.Str.ofString "twice" then tw else if z = PySem.Str.ofString "fields" then fi else none
section
variable (sc zo sp x pl on tw fi : Option Value) (v : Value) (z : PySem.Str)
theorem mpL_zones : (if z = PySem.Str.ofString "zones" then some v else mpL sc zo sp x pl on tw fi z) = mpL sc (some v) sp x pl on tw fi z := by
  by_cases q : z = PySem.Str.ofString "zones"
  · subst q; rfl
  · simp only [mpL, q, if_false]
theorem mpL_spoils : (if z = PySem.Str.ofString "spoils" then some v else mpL sc zo sp x pl on tw fi z) = mpL sc zo (some v) x pl on tw fi z := by
  by_cases q : z = PySem.Str.ofString "spoils"
  · subst q; rfl
  · simp only [mpL, q, if_false]
theorem mpL_x : (if z = PySem.Str.ofString "x" then some v else mpL sc zo sp x pl on tw fi z) = mpL sc zo sp (some v) pl on tw fi z := by
  by_cases q : z = PySem.Str.ofString "x"
  · subst q; rfl
  · simp only [mpL, q, if_false]
theorem mpL_plain : (if z = PySem.Str.ofString "plain" then some v else mpL sc zo sp x pl on tw fi z) = mpL sc zo sp x (some v) on tw fi z := by
  by_cases q : z = PySem.Str.ofString "plain"
  · subst q; rfl
  · simp only [mpL, q, if_false]
theorem mpL_once : (if z = PySem.Str.ofString "once" then some v else mpL sc zo sp x pl on tw fi z) = mpL sc zo sp x pl (some v) tw fi z := by
  by_cases q : z = PySem.Str.ofString "once"
  · subst q; rfl
  · simp only [mpL, q, if_false]
theorem mpL_twice : (if z = PySem.Str.ofString "twice" then some v else mpL sc zo sp x pl on tw fi z) = mpL sc zo sp x pl on (some v) fi z := by
  by_cases q : z = PySem.Str.ofString "twice"
  · subst q; rfl
  · simp only [mpL, q, if_false]
theorem mpL_fields : (if z = PySem.Str.ofString "fields" then some v else mpL sc zo sp x pl on tw fi z) = mpL sc zo sp x pl on tw (some v) z := by
  by_cases q : z = PySem.Str.ofString "fields"
  · subst q; rfl
  · simp only [mpL, q, if_false]
theorem mpL_start : List.lookup z [(PySem.Str.ofString "script", v)] = mpL (some v) none none none none none none none z := by
  by_cases q1 : z = PySem.Str.ofString "script"
  · subst q1; rfl
  have n : ∀ x : PySem.Str, ¬ z = x → (z == x) = false := fun x h => by simpa using h
  simp only [List.lookup, n _ q1, mpL, q1, if_false, ite_self]
end
/-- where the walk is to stop, a value -/
@[irreducible] def HidV (P : Value → Shared → Prop) (v : Value) (s : Shared) : Prop := P v s
theorem HidV.intro {P : Value → Shared → Prop} {v : Value} {s : Shared} (h : P v s) : HidV P v s := by unfold HidV; exact h
theorem HidV.out {P : Value → Shared → Prop} {v : Value} {s : Shared} (h : HidV P v s) : P v s := by unfold HidV at h; exact h
structure SpGot (n n' : List (Addr × Obj)) (l : Addr) (as : List Addr) : Prop where
  sub : ∀ p ∈ n, p ∈ n'
  hm : (l, listOf (as.map Value.ref).toArray 0) ∈ n'
  hT : TupsAt n' (spoilsM.map spoP) as
section
variable {w : World} {loose : List PySem.Str} {mean : ExcName → Option Value} {mg mb : PySem.Str → Option Value} {news : List (Addr × Obj)} {dp un : Nat} {gd : Option (List Code)} {cn : PySem.Str} {cs : Scope} {a : Addr} {ccd : Value} {cl : List (PySem.Str × Addr)} {outer : List Env} {A₀ : Around} {base h₀ : Heap} {L : Addr} {m : PySem.Str → Option Value} {s : Shared} {Q E : Value → Shared → Prop}
theorem use_spoils (B : Below A₀ base outer h₀) (F : Fr h₀ L s.heap m) (X : (MineTop.hd.heap_39 w.params).In h₀) (N : News h₀ L s.heap news) (T : Top MineTop.hd.view_39 loose mean mg mb h₀) (hk : cs.kind = .function) (hd : dp + 4 < recursionLimit) (hu : un + 20 < cLine)
    (hret : ∀ l as news' h' tk', Fr h₀ L h' m → News h₀ L h' news' → SpGot news news' l as → Q (.ref l) { s with heap := h', toks := tk' }) :
    wpAny (model PySem.Challenge.pw_in0098_01 w) (ktrTop dp un gd cn cs L a ccd cl outer) (call (.ref 137) []) Q E s :=
  spoils_ct w dp un gd cn cs a ccd cl outer A₀ base h₀ L m s Q E B F X N T hk hd hu fun v news' h' tk' F' N' ⟨sub, l, as, ev, hm, hT⟩ => by subst ev; exact hret l as news' h' tk' F' N' ⟨sub, hm, hT⟩
end
local macro_rules | `(tactic| walk_at "call ref") => `(tactic| (k_here; (with_reducible show wpAny _ _ (call (Value.ref 137) _) _ _ _); k_dflt (refine' use_spoils ?zB ?zF ?zX ?zN ?zT ?hk ?hd ?hu ?_); (case zB => k_asm); (case zF => k_asm); (case zX => k_asm); (case zN => k_asm); (case zT => k_asm); (case hk => rfl); (case hd => ktr_room); (case hu => ktr_units); intro l' as' news' h' tk' F' N' sg'; (try k_sweep); (try dsimp only)))
structure GdGot (n n' : List (Addr × Obj)) (l : Addr) : Prop where
  sub : ∀ p ∈ n, p ∈ n'
  good : Good6 n' l
section
variable {w : World} {loose : List PySem.Str} {mean : ExcName → Option Value} {mg mb : PySem.Str → Option Value} {news : List (Addr × Obj)} {dp un : Nat} {gd : Option (List Code)} {cn : PySem.Str} {cs : Scope} {a : Addr} {ccd : Value} {cl : List (PySem.Str × Addr)} {outer : List Env} {A₀ : Around} {base h₀ : Heap} {L : Addr} {m : PySem.Str → Option Value} {s : Shared} {Q E : Value → Shared → Prop}
theorem use_fields {x : Int} {t : Tok} (B : Below A₀ base outer h₀) (F : Fr h₀ L s.heap m) (X : (MineTop.hd.heap_39 w.params).In h₀) (N : News h₀ L s.heap news) (T : Top MineTop.hd.view_39 loose mean mg mb h₀) (hk : cs.kind = .function) (hd : dp + 4 < recursionLimit) (hu : un + 20 < cLine)
    (hret : ∀ l news' h' tk', Fr h₀ L h' m → News h₀ L h' news' → GdGot news news' l → Q (.ref l) { s with heap := h', toks := tk' }) :
    wpAny (model PySem.Challenge.pw_in0098_01 w) (ktrTop dp un gd cn cs L a ccd cl outer) (call (.ref 130) [.int x t]) Q E s :=
  fields_ct w x t dp un gd cn cs a ccd cl outer A₀ base h₀ L m s Q E B F X N T hk hd hu fun v news' h' tk' F' N' ⟨sub, l, Fs, ev, hF, e⟩ => by subst ev; exact hret l news' h' tk' F' N' ⟨sub, good_fields hF e⟩
theorem use_spoiled {l sp : Addr} (B : Below A₀ base outer h₀) (F : Fr h₀ L s.heap m) (X : (MineTop.hd.heap_39 w.params).In h₀) (N : News h₀ L s.heap news) (T : Top MineTop.hd.view_39 loose mean mg mb h₀) (hk : cs.kind = .function) (hd : dp + 4 < recursionLimit) (hu : un + 20 < cLine)
    (hg : Good6 news l) (hs : SpoilAt news sp)
    (hret : ∀ l news' h' tk', Fr h₀ L h' m → News h₀ L h' news' → GdGot news news' l → Q (.ref l) { s with heap := h', toks := tk' }) :
    wpAny (model PySem.Challenge.pw_in0098_01 w) (ktrTop dp un gd cn cs L a ccd cl outer) (call (.ref 161) [.ref l, .ref sp]) Q E s :=
  spoiled_any w l sp hg hs dp un gd cn cs a ccd cl outer A₀ base h₀ L m s Q E B F X N T hk hd hu fun v news' h' tk' F' N' ⟨sub, l', ev, hg'⟩ => by subst ev; exact hret l' news' h' tk' F' N' ⟨sub, hg'⟩
end
local macro_rules | `(tactic| walk_at "call ref") => `(tactic| (k_here; (with_reducible show wpAny _ _ (call (Value.ref 130) [Value.int _ _]) _ _ _); k_dflt (refine' use_fields ?zB ?zF ?zX ?zN ?zT ?hk ?hd ?hu ?_); (case zB => k_asm); (case zF => k_asm); (case zX => k_asm); (case zN => k_asm); (case zT => k_asm); (case hk => rfl); (case hd => ktr_room); (case hu => ktr_units); intro l' news' h' tk' F' N' sg'; (try k_sweep); (try dsimp only)))
local macro_rules | `(tactic| walk_at "call ref") => `(tactic| (k_here; (with_reducible show wpAny _ _ (call (Value.ref 161) [Value.ref _, Value.ref _]) _ _ _); k_dflt (refine' use_spoiled ?zB ?zF ?zX ?zN ?zT ?hk ?hd ?hu ?hg ?hs ?_); (case zB => k_asm); (case zF => k_asm); (case zX => k_asm); (case zN => k_asm); (case zT => k_asm); (case hk => rfl); (case hd => ktr_room); (case hu => ktr_units); (case hg => with_reducible assumption); (case hs => exact spoil_of (by with_reducible assumption) (by with_reducible assumption)); intro l' news' h' tk' F' N' sg'; (try k_sweep); (try dsimp only)))
local macro_rules | `(tactic| walk_at "subscriptTail") => `(tactic| (k_here; (with_reducible show wpAny _ _ (subscriptTail _ _ (Value.ref _) (Value.int _ _)) _ _ _); (with_unfolding_all refine' item_tab ?N ?hm ?h0 ?h1 ?hz ?_ ?hs; (case N => k_asm); (case hm => with_reducible assumption); (case h0 => omega); (case h1 => omega); (case hz => omega); (case hs => with_unfolding_all rfl); k_whole); intro _ _))
theorem ints_all {vs : List Value} {ns : List Int} (h : IntsAre vs ns) : ∀ v ∈ vs, ∃ k t, v = .int k t := by
  induction h with
  | nil => intro v hv; cases hv
  | cons _ _ _ ih =>
    intro v hv
    rcases List.mem_cons.mp hv with rfl | hv
    · exact ⟨_, _, rfl⟩
    · exact ih v hv
structure DueC (w : World) (loose : List PySem.Str) (mean : ExcName → Option Value) (mg mb : PySem.Str → Option Value) (news : List (Addr × Obj)) (l : Addr) (o : Out) : Prop where
  ct : LeafH w loose mean mg mb 149 news [.ref l] (fun v _ => ToldV o v)
section
variable {w : World} {loose : List PySem.Str} {mean : ExcName → Option Value} {mg mb : PySem.Str → Option Value} {news : List (Addr × Obj)} {dp un : Nat} {gd : Option (List Code)} {cn : PySem.Str} {cs : Scope} {a : Addr} {ccd : Value} {cl : List (PySem.Str × Addr)} {outer : List Env} {A₀ : Around} {base h₀ : Heap} {L : Addr} {m : PySem.Str → Option Value} {s : Shared} {Q E : Value → Shared → Prop}
structure IsTold (o : Out) (v : Value) : Prop where
  is : ToldV o v
theorem use_due {l : Addr} {o : Out} (C : DueC w loose mean mg mb news l o) (B : Below A₀ base outer h₀) (F : Fr h₀ L s.heap m) (X : (MineTop.hd.heap_39 w.params).In h₀) (N : News h₀ L s.heap news) (T : Top MineTop.hd.view_39 loose mean mg mb h₀) (hk : cs.kind = .function) (hd : dp + 12 < recursionLimit) (hu : un + 80 < cLine)
    (hret : ∀ v h' tk', Fr h₀ L h' m → News h₀ L h' news → IsTold o v → Q v { s with heap := h', toks := tk' }) :
    wpAny (model PySem.Challenge.pw_in0098_01 w) (ktrTop dp un gd cn cs L a ccd cl outer) (call (.ref 149) [.ref l]) Q E s :=
  C.ct dp un gd cn cs a ccd cl outer A₀ base h₀ L m s Q E B F X N T hk hd hu fun v h' tk' k r => hret v h' tk' (F.keeps k) (Mine.News.kept N k) ⟨r⟩
theorem item_zone {prog : Program} {A : Around} {value slice : PySem.Expr} {l : Addr} {zs : List Value} {n : Nat} {k : Int} {u : Tok} (N : News h₀ L s.heap news) (hm : (l, listOf zs.toArray n) ∈ news) (h0 : 0 ≤ k) (hk : k < (zs.length : Int)) (hz : k < 1000)
    (h : ∀ v, v ∈ zs → Q v s)
    (hs : subscripted slice false (.ref l) (.int k u) = operate [.ref l, .int k u] (getItem (.ref l) (.int k u))) :
    wpAny (model prog w) A (subscriptTail value slice (.ref l) (.int k u)) Q E s := by
  have hlt : k.toNat < zs.length := by omega
  have hl : s.heap.IsList l zs.toArray := ⟨_, (N _ hm).1, rfl, _, rfl⟩
  exact tail_any hl.typeIs PySem.slot_list_getitem.lookup (wpAny_getItem_list hl h0 (by omega) (x := zs[k.toNat]) (by simp [List.getElem?_eq_getElem hlt]) (h _ (List.getElem_mem hlt))) hs
theorem cmp_same {prog : Program} {A : Around} {o : Out} {v v' : Value} {Q : Bool → Shared → Prop} (h : IsTold o v) (h' : IsTold o v') (hq : ∀ tk, Q false { s with toks := tk }) :
    wpAny (model prog w) A (compareOp .NotEq v v') (fun c s₃ => wpAny (model prog w) A (truthy c) Q E s₃) E s := by
  obtain ⟨h⟩ := h
  obtain ⟨h'⟩ := h'
  cases o with
  | none =>
    obtain rfl : v = .none := h
    obtain rfl : v' = .none := h'
    exact EqNone.ne_none_none (wpAny_truthy_bool (hq _))
  | sec z =>
    obtain ⟨t, rfl⟩ : ∃ t, v = .int z t := h
    obtain ⟨u, rfl⟩ : ∃ t, v' = .int z t := h'
    refine P.ne_int ?_
    rw [bne_self_eq_false]
    exact wpAny_truthy_bool (hq _)
  | bad x =>
    obtain ⟨t, rfl⟩ : ∃ t, v = .str (noNumber x) t := h
    obtain ⟨u, rfl⟩ : ∃ t, v' = .str (noNumber x) t := h'
    refine P.ne_str ?_
    rw [bne_self_eq_false]
    exact wpAny_truthy_bool (hq _)
end
local macro_rules | `(tactic| walk_at "call ref") => `(tactic| (k_here; (rename DueC _ _ _ _ _ _ _ _ => dcX); (with_reducible show wpAny _ _ (call (Value.ref 149) [Value.ref _]) _ _ _); k_dflt (refine' use_due dcX ?zB ?zF ?zX ?zN ?zT ?hk ?hd ?hu ?_); (case zB => k_asm); (case zF => k_asm); (case zX => k_asm); (case zN => k_asm); (case zT => k_asm); (case hk => rfl); (case hd => ktr_room); (case hu => ktr_units); intro v' h' tk' F' N' sg'; (try k_sweep); (try dsimp only)))
local macro_rules | `(tactic| walk_at "subscriptTail") => `(tactic| (k_here; (with_reducible show wpAny _ _ (subscriptTail _ _ (Value.ref _) (Value.int _ _)) _ _ _); (rename ∀ v ∈ _, ZoneArg v => hzX); (with_unfolding_all refine' item_zone ?N ?hm ?h0 ?h1 ?hz ?_ ?hs; (case N => k_asm); (case hm => with_reducible assumption); (case h0 => omega); (case h1 => omega); (case hz => omega); (case hs => with_unfolding_all rfl); k_whole); intro _ hvX; (have hzV := hzX _ hvX)))
theorem zone_none : ZoneArg .none := .inl rfl
theorem zone_txt {x : PySem.Str} {u : Tok} (h : x.length ≤ 10) (h' : Txt.upper x = PySem.Str.ofString "GMT" ∨ Txt.upper x = PySem.Str.ofString "UTC" ∨ Txt.upper x = PySem.Str.ofString "UT" ∨ Txt.upper x = PySem.Str.ofString "Z") : ZoneArg (.str x u) := .inr ⟨x, u, rfl, h, h'⟩
set_option maxHeartbeats 4000000 in
theorem law0 : PySem.Challenge.rw_in0098_01.Holds := by
  refine MineTop.hd ?_
  k_fill
  intro w s₀ s₁ mg mb G Y fa o pm cd doc dV kV ho hd hcd hD hmg hg args vals as hpre hlay hrd hwl hlo
  have KX := kIn_of Y
  have X := (Ground.X G).1
  have V := (Ground.X G).2
  refine Ground.open G ?_
  intro T B D TE TW
  try (refine guard_noD D (by decide +kernel) ?_; clear D)
  obtain ⟨_, _, M⟩ := bmod_of_top T
  have TA := at_of_top T
  try (obtain ⟨_, _, he, B0⟩ := based_of_top T rfl hmg ho hd; have he' : cd = _ := he; subst he'; clear he)
  clear hmg
  wrow_args hpre hlay hrd hwl hlo
  rename Heap.IsList _ _ _ => hL
  rename IntsAre _ _ => hI
  rename ¬ _ < _ => hlen
  rename_i ns hs9 hlay9 hLay hr9 hl9 was1 was2 sc vs0 was3 ra w1 r0 hr8 hc8
  obtain rfl := Dflts.none hD rfl
  obtain rfl := Dflts.noKw hD
  clear hD
  dsimp only [docDef] at hd hcd
  refine' law_enter T ho ?hd ?hcd ?kb ?kl ?_ ?c2 ?c3 ?c4 ?c5
  case hd => exact hd
  case hcd => exact hcd
  case kb => exact BindsTo.of_eq rfl
  case kl => exact locs rfl
  case c2 => exact rfl
  case c3 => exact rfl
  case c4 => exact rfl
  case c5 => decide
  intro L h₁ F1
  have N1 : News s₁.heap L h₁ [] := News.nil
  clear TA hcd hd ho B0 M TE TW B V X
  replace F1 := Fr.congr F1 (fun z => mpL_start _ z)
  dsimp only
  have KB := below_caller s₁.heap
  change wpC (model PySem.Challenge.pw_in0098_01 w) _ _ _ _ _
  -- zones
  refine wpC_cut2 (fun s' => ∃ (h : Heap) (tk : Nat) (lz : Addr) (zs : List Value) (nz : Nat), s' = { s₁ with heap := h, toks := tk } ∧ Fr s₁.heap L h (mpL (some (.ref sc)) (some (.ref lz)) none none none none none none) ∧ News s₁.heap L h [(lz, listOf zs.toArray nz)] ∧ zs.length = 8 ∧ ∀ v ∈ zs, ZoneArg v) (fun _ _ => False) 1 ?cutA ?cutB (fun _ _ z => z.elim)
  case cutA =>
    dsimp only [List.take]
    refine wpC_of_any ?_
    k_steps
    all_goals (
      rename Fr _ L _ _ => FF
      rename News _ L _ _ => NN
      refine Hid2.next ⟨_, _, _, _, _, rfl, Fr.congr FF (fun z => mpL_zones _ _ _ _ _ _ _ _ _ z), NN, rfl, ?_⟩
      intro v hv
      simp only [List.mem_cons, List.not_mem_nil, or_false] at hv
      rcases hv with rfl | rfl | rfl | rfl | rfl | rfl | rfl | rfl
      · exact zone_none
      all_goals exact zone_txt (by decide +kernel) (by decide +kernel))
  rintro s' ⟨h2, tk2, lz, zs, nz, rfl, F2, N2, hzl, hzs⟩
  clear F1 N1
  dsimp only [List.drop]
  -- spoils
  refine wpC_cut2 (fun s' => ∃ (h : Heap) (tk : Nat) (ls : Addr) (as : List Addr) (news : List (Addr × Obj)), s' = { s₁ with heap := h, toks := tk } ∧ Fr s₁.heap L h (mpL (some (.ref sc)) (some (.ref lz)) (some (.ref ls)) none none none none none) ∧ News s₁.heap L h news ∧ (lz, listOf zs.toArray nz) ∈ news ∧ (ls, listOf (as.map Value.ref).toArray 0) ∈ news ∧ TupsAt news (spoilsM.map spoP) as) (fun _ _ => False) 1 ?cutC ?cutD (fun _ _ z => z.elim)
  case cutC =>
    dsimp only [List.take]
    refine wpC_of_any ?_
    k_steps
    all_goals (
      rename Fr _ L _ _ => FF
      rename News _ L _ _ => NN
      rename SpGot _ _ _ _ => sg
      exact Hid2.next ⟨_, _, _, _, _, rfl, Fr.congr FF (fun z => mpL_spoils _ _ _ _ _ _ _ _ _ z), NN, sg.sub _ (List.Mem.head _), sg.hm, sg.hT⟩)
  rintro s' ⟨h3, tk3, ls, as', news, rfl, F3, N3, hmz, hms, hT⟩
  clear F2 N2
  dsimp only [List.drop]
  -- the loop
  refine wpC_execs_cons (wpC_For ?_)
  refine wpAny_mono (Q := HidV (fun x s' => ∃ (ll : Addr) (ws : List Value) (nl : Nat) (h : Heap) (tk : Nat), x = .ref ll ∧ s' = { s₁ with heap := h, toks := tk } ∧ Fr s₁.heap L h (mpL (some (.ref sc)) (some (.ref lz)) (some (.ref ls)) none none none none none) ∧ News s₁.heap L h ((ll, listOf ws.toArray nl) :: news) ∧ ∀ v ∈ ws, ∃ k t, v = .int k t)) (E := fun _ _ => False) ?_ ?_ ?_
  · k_steps
    all_goals (
      rename Fr _ L _ _ => FF
      rename News _ L _ _ => NN
      rename IntsAre _ (_ ++ _) => hI2
      refine HidV.intro ⟨_, _, 0, _, _, rfl, rfl, FF, cb_drop NN ?_, ints_all hI2⟩
      intro p hp
      rcases List.mem_cons.mp hp with rfl | hp
      · exact List.Mem.head _
      · exact List.Mem.tail _ (List.Mem.tail _ (List.Mem.tail _ hp)))
  case refine_2 =>
    intro x s' hx
    obtain ⟨ll, ws, nl, h4, tk4, rfl, rfl, F4, N4, hws⟩ := hx.out
    clear F3 N3 hx
    refine wpAny_pyIter_list (items := ws.toArray) ⟨_, (N4 _ (List.Mem.head _)).1, rfl, _, rfl⟩ ?_
    have N5 := News.push F4 N4 { cls := .type "list_iterator", data := .fields #[.ref ll, .int 0 0] }
    have F5 := F4.push { cls := .type "list_iterator", data := .fields #[.ref ll, .int 0 0] }
    have hoff : ∀ q ∈ (ll, listOf ws.toArray nl) :: news, q.1 ≠ h4.objs.size := fun q hq => Nat.ne_of_lt (Heap.lt_size (N4 q hq).1)
    have hI5 := N5 _ (List.Mem.head _)
    dsimp only at N5 F5 hI5
    refine codeC_forList (s := s₁) (vs := ws) rfl (List.Mem.head _) hoff hI5.2.2 hI5.2.1 (fun _ m' => ∃ x pl on tw fi, m' = mpL (some (.ref sc)) (some (.ref lz)) (some (.ref ls)) x pl on tw fi) rfl rfl ?turn ?fin F5 N5 rfl rfl ⟨_, _, _, _, _, rfl⟩
    case fin =>
      rintro m' h tk ⟨x, pl, on, tw, fi, rfl⟩ F6 N6
      dsimp only
      refine wpC_of_any ?_
      k_steps
      dsimp only
      rename Fr _ L _ _ => FF
      refine GoodW.toG ?_
      wrow_close
    case turn =>
      rintro i v m' oI h tk hv ⟨x, pl, on, tw, fi, rfl⟩ F6 N6
      clear F4 N4 F5 N5
      obtain ⟨k, t, rfl⟩ := hws v (List.mem_of_getElem? hv)
      replace F6 := Fr.congr F6 (fun z => mpL_x _ _ _ _ _ _ _ _ _ z)
      have hT2 := hT.mono (n' := (h4.objs.size, oI) :: (ll, listOf ws.toArray nl) :: news) (fun q hq => List.Mem.tail _ (List.Mem.tail _ hq))
      have hmz2 : (lz, listOf zs.toArray nz) ∈ (h4.objs.size, oI) :: (ll, listOf ws.toArray nl) :: news := List.Mem.tail _ (List.Mem.tail _ hmz)
      have hms2 : (ls, listOf (as'.map Value.ref).toArray 0) ∈ (h4.objs.size, oI) :: (ll, listOf ws.toArray nl) :: news := List.Mem.tail _ (List.Mem.tail _ hms)
      have hsub : ∀ q ∈ (h4.objs.size, oI) :: (ll, listOf ws.toArray nl) :: news, q ∈ (h4.objs.size, oI) :: (ll, listOf ws.toArray nl) :: news := fun q hq => hq
      generalize hNS : (h4.objs.size, oI) :: (ll, listOf ws.toArray nl) :: news = NS at N6 hT2 hmz2 hms2 hsub ⊢
      have hal : as'.length = 21 := hT2.length_eq.symm
      have c1 : 0 ≤ k.fmod 21 ∧ k.fmod 21 < 21 := ⟨Int.fmod_nonneg_of_pos k (by decide), Int.fmod_lt_of_pos k (by decide)⟩
      have c2 : 0 ≤ (k.fdiv 21 + 20).fmod 21 ∧ (k.fdiv 21 + 20).fmod 21 < 21 := ⟨Int.fmod_nonneg_of_pos _ (by decide), Int.fmod_lt_of_pos _ (by decide)⟩
      -- plain
      refine wpC_cut2 (fun s' => ∃ (h : Heap) (tk : Nat) (l0 : Addr) (n1 : List (Addr × Obj)), s' = { s₁ with heap := h, toks := tk } ∧ Fr s₁.heap L h (mpL (some (.ref sc)) (some (.ref lz)) (some (.ref ls)) (some (.int k t)) (some (.ref l0)) on tw fi) ∧ News s₁.heap L h n1 ∧ GdGot NS n1 l0) (fun _ _ => False) 1 ?_ ?_ (fun _ _ z => z.elim)
      · dsimp only [List.take]
        refine wpC_of_any ?_
        k_steps
        all_goals (
          rename Fr _ L _ _ => FF
          rename News _ L _ _ => NN
          rename GdGot _ _ _ => sg
          exact Hid2.next ⟨_, _, _, _, rfl, Fr.congr FF (fun z => mpL_plain _ _ _ _ _ _ _ _ _ z), NN, sg⟩)
      rintro s' ⟨h7, tk7, l0, n1, rfl, F7, N7, g0⟩
      clear F6 N6
      dsimp only [List.drop]
      have g0g := g0.good
      have hT3 := hT2.mono g0.sub
      have hms3 := g0.sub _ hms2
      -- once
      refine wpC_cut2 (fun s' => ∃ (h : Heap) (tk : Nat) (l1 : Addr) (n2 : List (Addr × Obj)), s' = { s₁ with heap := h, toks := tk } ∧ Fr s₁.heap L h (mpL (some (.ref sc)) (some (.ref lz)) (some (.ref ls)) (some (.int k t)) (some (.ref l0)) (some (.ref l1)) tw fi) ∧ News s₁.heap L h n2 ∧ GdGot n1 n2 l1) (fun _ _ => False) 1 ?_ ?_ (fun _ _ z => z.elim)
      · dsimp only [List.take]
        refine wpC_of_any ?_
        k_steps
        all_goals (
          rename Fr _ L _ _ => FF
          rename News _ L _ _ => NN
          rename GdGot _ _ _ => sg
          exact Hid2.next ⟨_, _, _, _, rfl, Fr.congr FF (fun z => mpL_once _ _ _ _ _ _ _ _ _ z), NN, sg⟩)
      rintro s' ⟨h8, tk8, l1, n2, rfl, F8, N8, g1⟩
      clear F7 N7
      dsimp only [List.drop]
      have g1g := g1.good
      have hT4 := hT3.mono g1.sub
      have hms4 := g1.sub _ hms3
      -- twice
      refine wpC_cut2 (fun s' => ∃ (h : Heap) (tk : Nat) (l2 : Addr) (n3 : List (Addr × Obj)), s' = { s₁ with heap := h, toks := tk } ∧ Fr s₁.heap L h (mpL (some (.ref sc)) (some (.ref lz)) (some (.ref ls)) (some (.int k t)) (some (.ref l0)) (some (.ref l1)) (some (.ref l2)) fi) ∧ News s₁.heap L h n3 ∧ GdGot n2 n3 l2) (fun _ _ => False) 1 ?_ ?_ (fun _ _ z => z.elim)
      · dsimp only [List.take]
        refine wpC_of_any ?_
        k_steps
        all_goals (
          rename Fr _ L _ _ => FF
          rename News _ L _ _ => NN
          rename GdGot _ _ _ => sg
          exact Hid2.next ⟨_, _, _, _, rfl, Fr.congr FF (fun z => mpL_twice _ _ _ _ _ _ _ _ _ z), NN, sg⟩)
      rintro s' ⟨h9, tk9, l2, n3, rfl, F9, N9, g2⟩
      clear F8 N8
      dsimp only [List.drop]
      have g2g := g2.good
      have gsub : ∀ q ∈ NS, q ∈ n3 := fun q hq => g2.sub _ (g1.sub _ (g0.sub _ hq))
      have hmz5 := gsub _ hmz2
      have hall : ∀ v ∈ [Value.ref l0, .ref l1, .ref l2], ∃ l, v = .ref l ∧ Good6 n3 l := by
        intro v hv
        simp only [List.mem_cons, List.not_mem_nil, or_false] at hv
        rcases hv with rfl | rfl | rfl
        · exact ⟨_, rfl, g0g.mono fun q hq => g2.sub _ (g1.sub _ hq)⟩
        · exact ⟨_, rfl, g1g.mono g2.sub⟩
        · exact ⟨_, rfl, g2g⟩
      clear hT2 hT3 hT4 hms2 hms3 hms4 hmz2 g0g g1g g2g
      -- the inner loop
      refine wpC_execs_cons (wpC_For ?_)
      refine wpAny_mono (Q := HidV (fun x s' => ∃ (tt : Addr) (h : Heap) (tk : Nat), x = .ref tt ∧ s' = { s₁ with heap := h, toks := tk } ∧ Fr s₁.heap L h (mpL (some (.ref sc)) (some (.ref lz)) (some (.ref ls)) (some (.int k t)) (some (.ref l0)) (some (.ref l1)) (some (.ref l2)) fi) ∧ News s₁.heap L h ((tt, tupOf [Value.ref l0, .ref l1, .ref l2]) :: n3))) (E := fun _ _ => False) ?_ ?_ ?_
      · k_steps
        all_goals (
          rename Fr _ L _ _ => FF
          rename News _ L _ _ => NN
          exact HidV.intro ⟨_, _, _, rfl, rfl, FF, NN⟩)
      case refine_3 => exact fun _ _ z => z.elim
      intro x s' hx
      obtain ⟨tt, h10, tk10, rfl, rfl, F10, N10⟩ := hx.out
      clear F9 N9 hx
      refine wpAny_pyIter_tuple (items := [Value.ref l0, .ref l1, .ref l2].toArray) ⟨_, (N10 _ (List.Mem.head _)).1, rfl, _, rfl⟩ ?_
      have N11 := News.push F10 N10 { cls := .type "tuple_iterator", data := .fields #[.ref tt, .int 0 0] }
      have F11 := F10.push { cls := .type "tuple_iterator", data := .fields #[.ref tt, .int 0 0] }
      have hoff2 : ∀ q ∈ (tt, tupOf [Value.ref l0, .ref l1, .ref l2]) :: n3, q.1 ≠ h10.objs.size := fun q hq => Nat.ne_of_lt (Heap.lt_size (N10 q hq).1)
      have hI11 := N11 _ (List.Mem.head _)
      dsimp only at N11 F11 hI11
      refine codeC_forTuple (s := s₁) (vs := [Value.ref l0, .ref l1, .ref l2]) rfl (List.Mem.head _) hoff2 hI11.2.2 hI11.2.1 (fun _ m' => ∃ fi, m' = mpL (some (.ref sc)) (some (.ref lz)) (some (.ref ls)) (some (.int k t)) (some (.ref l0)) (some (.ref l1)) (some (.ref l2)) fi) rfl rfl ?turn2 ?fin2 F11 N11 rfl rfl ⟨_, rfl⟩
      case fin2 =>
        rintro m' h tk ⟨fi, rfl⟩ F12 N12
        dsimp only
        refine wpC_execs_nil ?_
        dsimp only
        exact ⟨_, _, _, rfl, F12, cb_drop N12 (fun q hq => List.Mem.tail _ (gsub q hq)), _, _, _, _, _, rfl⟩
      case turn2 =>
        rintro j v m' oJ h tk hv ⟨fi', rfl⟩ F12 N12
        clear F10 N10 F11 N11
        obtain ⟨l, rfl, hgood⟩ := hall v (List.mem_of_getElem? hv)
        replace F12 := Fr.congr F12 (fun z => mpL_fields _ _ _ _ _ _ _ _ _ z)
        have hsub5 : ∀ q ∈ n3, q ∈ (h10.objs.size, oJ) :: (tt, tupOf [Value.ref l0, .ref l1, .ref l2]) :: n3 := fun q hq => List.Mem.tail _ (List.Mem.tail _ hq)
        have hgood2 := hgood.mono hsub5
        have hmz6 := hsub5 _ hmz5
        generalize hNT : (h10.objs.size, oJ) :: (tt, tupOf [Value.ref l0, .ref l1, .ref l2]) :: n3 = NT at N12 hgood2 hmz6 ⊢
        have c8 : 0 ≤ k.fmod 8 ∧ k.fmod 8 < 8 := ⟨Int.fmod_nonneg_of_pos _ (by decide), Int.fmod_lt_of_pos _ (by decide)⟩
        refine wpC_execs_cons (wpC_If (wpC_isTrue_Compare1 (wpC_Call_Name rfl ?_)))
        refine name_K (v := .ref 154) F12 KX (topRead_of T) (by k_is) ?_ rfl rfl (by decide)
        obtain ⟨o154, fd154, e154, q154⟩ := lookup_func (K := MineTop.hd.heap_39 w.params) (a := 154) (by k_is)
        refine wpC_callWith_function (o := o154) (fd := fd154) (Calls.evalArgs_plain (spliced_cons ?_))
        refine ld F12 rfl (spliced_cons ?_) rfl rfl (by decide)
        show wpAny _ _ (eval (PySem.Expr.Subscript _ _ _) _) _ _ _
        refine wpAny_mono (Q := HidV (fun v s' => ZoneArg v ∧ ∃ tk, s' = { s₁ with heap := h, toks := tk })) (E := fun _ _ => False) ?_ ?_ (fun _ _ z => z.elim)
        · k_steps
          all_goals (rename ZoneArg _ => hzV; exact HidV.intro ⟨hzV, _, rfl⟩)
        intro vz s' hx
        obtain ⟨hzV, tk13, rfl⟩ := hx.out
        refine spliced_nil ?_
        refine ⟨⟨F12.keep _ _ (KX _ _ e154), q154⟩, ?_⟩
        dsimp only [List.nil_append]
        obtain ⟨o, ho⟩ := told_due hgood2 hzV
        obtain ⟨a0, a1, a2, a3, a4, a5, nn, vd, vm, vy, vh, vi, vc, k0, k1, k2, k3, k4, k5, q, p0, p1, p2, p3, p4, p5, hS, hDue⟩ := ho w (loose := _) (mean := ExcName.means s₀.heap) (mg := mg) (mb := mb)
        refine' told_C w l a0 a1 a2 a3 a4 a5 nn vd vm vy vh vi vc vz k0 k1 k2 k3 k4 k5 o q p0 p1 p2 p3 p4 p5 (hS NT) _ _ _ _ _ _ _ _ _ _ _ L _ _ _ _ KB F12 KX N12 T KX T ktsDicts_nil rfl ?r1 ?r2 ?hret
        case r1 => ktr_room
        case r2 => ktr_units
        intro v h13 tk14 g' KT F13 N13 b1 b2 b3 b4 hv1
        replace F13 := fr_nil KT F13
        replace N13 := news_nil KT N13
        have tv : IsTold o v := ⟨hv1⟩
        have dc := DueC.mk hDue
        clear hS hDue hv1 F12 N12 b1 b2 b3 b4 KT
        dsimp only
        refine wpAny_mono (Q := HidV (fun v' s' => IsTold o v' ∧ ∃ (h : Heap) (tk : Nat), s' = { s₁ with heap := h, toks := tk } ∧ Fr s₁.heap L h (mpL (some (.ref sc)) (some (.ref lz)) (some (.ref ls)) (some (.int k t)) (some (.ref l0)) (some (.ref l1)) (some (.ref l2)) (some (.ref l))) ∧ News s₁.heap L h NT)) (E := fun _ _ => False) ?_ ?_ (fun _ _ z => z.elim)
        · k_steps
          all_goals (
            rename Fr _ L _ _ => FF
            rename News _ L _ _ => NN
            rename IsTold _ _ => tv2
            exact HidV.intro ⟨tv2, _, _, rfl, FF, NN⟩)
        intro v' s' hx
        obtain ⟨tv', h14, tk15, rfl, F14, N14⟩ := hx.out
        refine cmp_same tv tv' fun tk16 => ?_
        dsimp only
        rw [if_neg Bool.false_ne_true]
        refine wpC_execs_nil ?_
        dsimp only
        refine wpC_execs_nil ?_
        dsimp only
        exact ⟨_, _, _, rfl, F14, N14, _, rfl⟩
  case refine_3 => exact fun _ _ z => z.elim
end Mine
end

theorem PySem.Challenge.cw_in0098_01_holds : PySem.Challenge.rw_in0098_01.Holds :=
  Mine.law0
