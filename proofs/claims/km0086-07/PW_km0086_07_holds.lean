import PyProof.Rows.All
import Wide.All
import OpenK.AllK
import Wide.FinOn
import PyProof.StrLawsRepr
import PyProof.Draws
import KE.IntTextLaws
import KE.KLcPair
import PySem.Challenge.RW_km0086_07
set_option Elab.async false
section
open PySem PySem.W PyProof.Rows PySem.Calls
set_option maxRecDepth 100000
namespace Mine
/-- the stack bears the claim's caller -/
def HasC (l : List (Code × Pos)) : Prop := (l.map (·.1)).any Code.isCaller = true
theorem HasC.cons {x : Code × Pos} {l : List (Code × Pos)} (h : HasC l) : HasC (x :: l) := by
  unfold HasC at *
  rw [List.map_cons, List.any_cons, h, Bool.or_true]
/-- a tree at every stack within A that bears the claim's caller -/
def wpC {α : Type} (M : Model) (A : Around) (t : Sem α) (Q : α → Shared → Prop) (E : Value → Shared → Prop) (s : Shared) : Prop :=
  ∀ Γ p, Γ.In A → HasC ((Γ.code, p) :: Γ.below) → Sem.wp M Γ t (fun a _ s' => Q a s') (fun e _ s' => E e s') p s
def codeC (M : Model) (A : Around) (c : Code) (R : Result → Shared → Prop) (s : Shared) : Prop :=
  ∀ Γ p, Γ.code = c → Γ.Below A → HasC Γ.below → wpCode M Γ R p s
theorem hasC_pos {c : Code} {p p' : Pos} {l : List (Code × Pos)} (h : HasC ((c, p) :: l)) : HasC ((c, p') :: l) := h
section
variable {α β : Type} {M : Model} {A : Around} {E : Value → Shared → Prop} {s : Shared}
theorem wpC_any {t : Sem α} {Q : α → Shared → Prop} (h : wpAny M A t Q E s) : wpC M A t Q E s := fun Γ p hΓ _ => h Γ p hΓ
theorem codeC_any {c : Code} {R : Result → Shared → Prop} (h : codeAny M A c R s) : codeC M A c R s := fun Γ p hc hΓ _ => h Γ p hc hΓ
theorem wpC_mono {t : Sem α} {Q Q' : α → Shared → Prop} {E' : Value → Shared → Prop} (h : wpC M A t Q E s) (hQ : ∀ a s, Q a s → Q' a s) (hE : ∀ e s, E e s → E' e s) : wpC M A t Q' E' s :=
  fun Γ p hΓ hC => Sem.wp_mono M Γ t (fun a _ s => hQ a s) (fun e _ s => hE e s) p s (h Γ p hΓ hC)
theorem codeC_mono {c : Code} {R R' : Result → Shared → Prop} (h : codeC M A c R s) (hR : ∀ r s, R r s → R' r s) : codeC M A c R' s := fun Γ p hc hΓ hC => wpCode_mono hR (h Γ p hc hΓ hC)
theorem wpC_pure {a : α} {Q : α → Shared → Prop} (h : Q a s) : wpC M A (pure a) Q E s := fun _ _ _ _ => h
theorem wpC_bind {m : Sem α} {f : α → Sem β} {Q : β → Shared → Prop} (h : wpC M A m (fun a s' => wpC M A (f a) Q E s') E s) : wpC M A (m >>= f) Q E s := fun Γ p hΓ hC => by
  rw [Sem.wp_bind']
  exact Sem.wp_mono M Γ m (fun a p' s' h' => h' Γ p' hΓ (hasC_pos hC)) (fun _ _ _ h' => h') p s (h Γ p hΓ hC)
/-- the usual step: the first part needs no caller -/
theorem wpC_bindA {m : Sem α} {f : α → Sem β} {Q : β → Shared → Prop} (h : wpAny M A m (fun a s' => wpC M A (f a) Q E s') E s) : wpC M A (m >>= f) Q E s := wpC_bind (wpC_any h)
theorem wpC_onRaise {m : Sem α} {k : Value → Sem Unit} {Q : α → Shared → Prop} (h : wpC M A m Q (fun e s' => wpAny M A (k e) (fun _ s'' => E e s'') E s') s) : wpC M A (m.onRaise k) Q E s := fun Γ p hΓ hC => by
  rw [Sem.wp_onRaise]
  exact Sem.wp_mono M Γ m (fun _ _ _ h' => h') (fun e p' s' h' => h' Γ p' hΓ) p s (h Γ p hΓ hC)
theorem wpC_holding {vs : List Value} {m : Sem α} {Q : α → Shared → Prop} (h : wpC M A m Q E s) : wpC M A (holding vs m) Q E s :=
  fun Γ p hΓ hC => by rw [Sem.wp_holding]; exact h Γ p hΓ hC
theorem wpC_standAt {f : Unit → Sem β} {pos : Pos} {Q : β → Shared → Prop} (h : wpC M A (f ()) Q E s) : wpC M A (standAt pos >>= f) Q E s := wpC_bindA (wpAny_standAt h)
theorem wpC_stack {Q : List (Code × Pos) → Shared → Prop} (h : ∀ st, HasC st → Q st s) : wpC M A stack Q E s := fun Γ p _ hC => by
  show Q ((Γ.code, p) :: Γ.below) s
  exact h _ hC
theorem wpC_run {c : Code} {h : Option Value} {Q : Flow → Shared → Prop} (hc : codeC M (A.mark h) c (fun r s' => match r with | .ok f => Q f s' | .error e => E e s') s) (hnb : h ≠ some byPass := by intro x; cases x) : wpC M A (run c h) Q E s :=
  fun Γ p hΓ hC => by rw [Sem.wp_run]; exact hc _ p rfl (hΓ.enter c h p hnb) hC
theorem wpC_call {f : Value} {pos : List Value} {kw : List (Str × Value)} {Q : Value → Shared → Prop} (hc : codeC M A (.call f ⟨pos, kw⟩) (fun r s' => match r with | .ok (.ret v) => Q v s' | .ok _ => False | .error e => E e s') s) : wpC M A (call f pos kw) Q E s := fun Γ p hΓ hC => by
  show Sem.wp M Γ (runValue (.call f ⟨pos, kw⟩)) _ _ p s
  rw [Sem.wp_runValue]
  exact hc _ p rfl (hΓ.enter _ none p (by intro x; cases x)) hC
theorem codeC_of_tree {c : Code} {R : Result → Shared → Prop} (h : wpC M (A.under c) (M.den c) (fun fin s' => match fin with | .done f => R (.ok f) s' | .again c' => c'.quiet = true ∧ codeC M A c' R s') (fun e s' => R (.error e) s') s) : codeC M A c R s := fun Γ p hc hΓ hC => by
  rw [wpCode_iff_wp, hc]
  refine Sem.wp_mono M Γ _ (fun fin p' s' h' => ?_) (fun _ _ _ h' => h') p s (h Γ p (hc ▸ hΓ.in) hC.cons)
  cases fin with
  | done f => exact h'
  | again c' => exact ⟨h'.1, h'.2 (Γ.goto c') p' rfl (hΓ.goto c') hC⟩
theorem codeC_loop {c : Code} {R : Result → Shared → Prop} (hq : c.quiet = true) (I : Nat → Shared → Prop)
    (turn : ∀ n s, I n s → wpC M (A.under c) (M.den c) (fun fin s' => match fin with | .done f => R (.ok f) s' | .again c' => (c' = c ∧ ∃ m, m < n ∧ I m s') ∨ (c'.quiet = true ∧ codeC M A c' R s')) (fun e s' => R (.error e) s') s)
    (n : Nat) (h : I n s) : codeC M A c R s := by
  induction n using Nat.strongRecOn generalizing s with
  | ind n ih =>
    refine codeC_of_tree (wpC_mono (turn n s h) (fun fin s' hf => ?_) fun _ _ h' => h')
    cases fin with
    | done f => exact hf
    | again c' =>
      rcases hf with ⟨rfl, m, hm, hI⟩ | hf
      · exact ⟨hq, ih m hm hI⟩
      · exact hf
variable {env : Env}
theorem wpC_execs_cons {st : Stmt} {rest : List Stmt} {Q : Flow → Shared → Prop}
    (h : wpC M A (exec st env) (fun f s' => match f with | .next => wpC M A (execs rest env) Q E s' | f => Q f s') E s) : wpC M A (execs (st :: rest) env) Q E s := fun Γ p hΓ hC => by
  rw [execs_cons, Sem.wp_bind']
  refine Sem.wp_mono M Γ _ (fun f p' s' h' => ?_) (fun _ _ _ h' => h') _ _ (h Γ p hΓ hC)
  cases f <;> first | exact h' Γ p' hΓ hC | exact h'
theorem wpC_runOwn {c : Code} {h : Option Value} {Q : Flow → Shared → Prop}
    (hc : codeC M (A.mark h) c (fun r s' => match r with | .ok f => Q f s' | .error e => cameBackBy M A env E e s') s) (hnb : h ≠ some byPass := by intro x; cases x) : wpC M A (runOwn c env h) Q E s := by
  unfold runOwn
  exact wpC_onRaise (wpC_run hc hnb)
theorem wpC_Assign_Name {x : Str} {pos' : Pos} {value : Expr} {pos : Pos} {Q : Flow → Shared → Prop}
    (h : wpC M A (eval value env) (fun v s₁ => wpAny M A (storeName env x v) (fun _ => Q .next) E s₁) E s) (hs : swapsWith value (some (.Name x pos')) pos.line env = pure false := by rfl) :
    wpC M A (exec (.Assign [.Name x pos'] value pos) env) Q E s := fun Γ p hΓ hC => by
  simp only [exec_Assign_Name env x pos' value pos hs, Sem.wp_bind', Sem.wp_cmd_standAt, Sem.wp_bindName, Sem.wp_pure']
  exact Sem.wp_mono M Γ _ (fun v _ s₁ h₁ => h₁ Γ _ hΓ) (fun _ _ _ h' => h') _ _ (h Γ _ hΓ hC)
theorem wpC_Return {e : Expr} {pos : Pos} {Q : Flow → Shared → Prop} (h : wpC M A (eval e env) (fun v => Q (.ret v)) E s) : wpC M A (exec (.Return (some e) pos) env) Q E s := fun Γ p hΓ hC => by
  simp only [exec_Return_some, Sem.wp_bind', Sem.wp_cmd_standAt, Sem.wp_pure']
  exact h Γ _ hΓ hC
theorem wpC_For {target iter : Expr} {body orelse : List Stmt} {pos : Pos} {Q : Flow → Shared → Prop}
    (h : wpAny M A (eval iter env) (fun x s₁ => wpAny M A (pyIter x) (fun it s₂ => codeC M A (.forLoop target it body orelse env) (fun r s' => match r with | .ok f => Q f s' | .error e => cameBackBy M A env E e s') s₂) E s₁) E s)
    (hs : ∀ x, foldedSetIterable iter env x = pure x := by intro _; rfl) : wpC M A (exec (.For target iter body orelse pos) env) Q E s := by
  rw [exec_For]
  refine wpC_standAt (wpC_bindA (wpAny_mono h (fun x s₁ h₁ => ?_) fun _ _ h' => h'))
  rw [hs x]
  refine wpC_bindA (wpAny_pure (wpC_standAt ?_))
  exact wpC_bindA (wpAny_holding (wpAny_mono h₁ (fun it s₂ h₂ => wpC_runOwn h₂) fun _ _ h' => h'))
end
section
variable {prog : Program} {w : World} {A : Around} {s : Shared} {env : Env} {R : Result → Shared → Prop}
theorem codeC_forLoop {target : Expr} {it : Value} {body orelse : List Stmt} (I : Nat → Shared → Prop)
    (turn : ∀ n s, I n s → wpAny (model prog w) A (pyNext it) (fun r s₁ => match r with
      | none => wpAny (model prog w) A (execs orelse env) (fun f s₃ => R (.ok f) s₃) (notedBy (model prog w) A env fun e s' => R (.error e) s') s₁
      | some v => wpAny (model prog w) A (assign target env v) (fun _ s₂ => wpC (model prog w) A (execs body env) (fun f s₃ => match f with
          | .next | .cont => ∃ m, m < n ∧ I m s₃
          | .brk => R (.ok .next) s₃
          | .ret v => R (.ok (.ret v)) s₃) (notedBy (model prog w) A env fun e s' => R (.error e) s') s₂) (notedBy (model prog w) A env fun e s' => R (.error e) s') s₁) (notedBy (model prog w) A env fun e s' => R (.error e) s') s)
    (n : Nat) (h : I n s) (ht : ∀ v, letOwnedTupleGo target it v = pure () := by intro _; rfl) : codeC (model prog w) A (.forLoop target it body orelse env) R s := by
  refine codeC_loop rfl I (fun n s hI => ?_) n h
  show wpC _ A ((forTurn target it body orelse env).onRaise (fun x => do noteFrame x env; theTreesLotGoes x)) _ _ s
  refine wpC_onRaise (wpC_mono (E := notedBy (model prog w) A env fun e s' => R (.error e) s') ?_ (fun _ _ q => q) fun x s' hx => wpAny_bind (wpAny_mono hx (fun _ _ e => wpAny_theTreesLotGoes e) fun _ _ e => e))
  simp only [forTurn]
  refine wpC_standAt (wpC_bindA (wpAny_onRaise (wpAny_mono (turn n s hI) (fun r s₁ h₁ => ?_) fun _ _ h' => wpAny_standAt h')))
  cases r with
  | none => exact wpC_pure (.inr ⟨rfl, codeC_any (codeAny_block h₁)⟩)
  | some v =>
    dsimp only
    rw [ht v]
    refine wpC_bindA (wpAny_pure ?_)
    refine wpC_bindA (wpAny_mono h₁ (fun _ s₂ h₂ => wpC_bind (wpC_mono h₂ (fun f s₃ h₃ => ?_) fun _ _ h' => h')) fun _ _ h' => h')
    cases f with
    | next => exact wpC_pure (.inl ⟨rfl, h₃⟩)
    | cont => exact wpC_pure (.inl ⟨rfl, h₃⟩)
    | brk => exact wpC_pure h₃
    | ret v => exact wpC_pure h₃
end
end Mine
end
section
open PySem PySem.W PyProof.Rows PySem.Calls
set_option maxRecDepth 100000
namespace Mine
section
variable {prog : Program} {w : World} {A : Around} {E : Value → Shared → Prop} {s : Shared} {R : Result → Shared → Prop}
theorem codeC_func {body : List Stmt} {env : Env}
    (h : wpC (model prog w) (A.deeper env) (execs body env) (fun f s' => R (.ok (.ret (match f with | .ret v => v | _ => .none))) s')
      (fun e s' => wpAny (model prog w) (A.deeper env) (leaving env e) (fun _ s'' => R (.error e) s'') (fun e' s'' => R (.error e') s'') s') s) :
    codeC (model prog w) A (.func body env) R s := by
  refine codeC_of_tree ?_
  show wpC _ (A.deeper env) (do point; match ← (execs body env).onRaise (leaving env) with | .ret v => ret v | _ => ret .none) _ _ s
  refine wpC_bindA (wpAny_point (wpC_bind (wpC_onRaise (wpC_mono h (fun f s' h' => ?_) fun _ _ h' => h'))))
  cases f <;> exact wpC_pure h'
theorem codeC_call_def {a : Addr} {o : Obj} {fd : FuncData} {body : List Stmt} {args : Args} {binds : List (Str × Value)}
    (hroom : A.depth < recursionLimit) (ho : s.heap.get? a = some o) (hdata : o.data = .func fd) (hlim : s.heap.NoLimit) (hcd : s.heap.CodeRec fd.code fd.qualname)
    (hbody : fd.body = .stmts body) (hbind : BindsTo s fd args binds) (hcell : ∀ x ∈ fd.scope.names, x.2 ≠ .cell) (hloc : ∀ x ∈ binds, fd.scope.names.lookup x.1 = some .local)
    (h : ∀ h₀, h₀.Ns s.heap.objs.size (fun x => binds.reverse.lookup x) → (∀ b o, s.heap.get? b = some o → h₀.get? b = some o) →
      wpC (model prog w) (A.deeper (callEnv fd s.heap.objs.size a)) (execs body (callEnv fd s.heap.objs.size a)) (fun f s' => R (.ok (.ret (match f with | .ret v => v | _ => .none))) s')
        (fun e s' => wpAny (model prog w) (A.deeper (callEnv fd s.heap.objs.size a)) (leaving (callEnv fd s.heap.objs.size a) e) (fun _ s'' => R (.error e) s'') (fun e' s'' => R (.error e') s'') s')
        { s with heap := h₀, toks := s.toks + binds.length })
    (hco : fd.scope.isCoroutine = false) (hgen : fd.scope.isGenerator = false) (hk : fd.scope.kind = .function) : codeC (model prog w) A (.call (.ref a) args) R s := by
  refine codeC_of_tree ?_
  show wpC _ A.in1 (callAny (.ref a) args) _ _ s
  simp only [callAny]
  refine wpC_bindA (wpAny_load ho ?_)
  obtain ⟨c, oc, vs, tq, hc, hoc, hdc, hq⟩ := hcd
  simp only [hdata, callFunction, hco, hgen, hbody, hc]
  refine wpC_bindA (m := field (.ref c) 1) (wpAny_field hoc hdc hq (wpC_bindA (wpAny_pure ?_)))
  refine wpC_bindA (hbind _ _ _ _ (wpC_bindA (wpAny_newFunctionEnv hcell hloc (fun h₀ hns₀ hsb₀ => ?_) hk)))
  refine wpC_bindA (wpAny_enterFrame (hlim.fresh _ hsb₀) hroom (wpC_pure ⟨rfl, ?_⟩))
  have e : callEnv fd s.heap.objs.size a = newEnv fd.scope s.heap.objs.size fd.globals fd.closure (fd.qualname ++ ".<locals>.") (some a) fd.code none fd.builtins := rfl
  rw [hc] at e
  rw [← e]
  exact codeC_func (h h₀ hns₀ fun b o e => hsb₀.extBut b o (Nat.ne_of_lt (Heap.lt_size e)) (Heap.get?_push_of_some _ e))
end
end Mine
end
section
open PySem PySem.W PyProof.Rows PySem.Calls PySem.NumText
set_option maxRecDepth 100000
set_option maxHeartbeats 4000000
namespace Mine
section
variable {prog : Program} {w : World} {A : Around} {E : Value → Shared → Prop} {s : Shared}
theorem wpC_ruleK {α : Type} {M : Model} {tag : String} {k : Unit → Sem α} {Q : α → Shared → Prop} (h : wpC M A (k ()) Q E s) : wpC M A (.rule tag k) Q E s := fun Γ p hΓ hC => by
  rw [Sem.wp_rule]
  exact h Γ p hΓ hC
theorem markC {M : Model} {own : List String} {e : Value} {Q : Unit → Shared → Prop} (h : Q () s) : wpC M A (markTheRefusal own e) Q E s := by
  unfold markTheRefusal
  refine wpC_bind (wpC_stack fun st hst => ?_)
  have hf : pythonCodeMadeTheCall own (st.map (·.1)) = false := by
    unfold pythonCodeMadeTheCall
    refine Bool.and_eq_false_iff.mpr (.inl (Bool.and_eq_false_iff.mpr (.inl ?_)))
    rw [Bool.not_eq_false']
    exact hst
  rw [hf]
  exact wpC_pure h
/-- what int says of a text that it does not read -/
def refusedText (x : PySem.Str) : PySem.Str := Str.ofString (toString "invalid literal for int() with base " ++ toString 10 ++ toString ": ") ++ { cps := (reprText x).cps.extract 0 200 }
end
end Mine
end
section
open PySem PySem.W PyProof.Rows PySem.Calls PySem.NumText
set_option maxRecDepth 100000
set_option maxHeartbeats 4000000
namespace Mine
section
variable {prog : Program} {w : World} {A : Around} {E : Value → Shared → Prop} {s : Shared}
theorem objC {x : PySem.Str} {t : Tok} {Q : Value → Shared → Prop} (hs : (numSeenOf x).length ≤ 640) (hr : (int_private% "readNumeral") 0 10 (numSeenOf x) = (int_private% "Numeral.invalid")) (hh : A.handled = none) (hsz : (reprText x).length ≤ sizeLine) (hsz2 : (refusedText x).length ≤ sizeLine)
    (h : ∀ h' tk e t', Heap.MadeExc s.heap h' e "ValueError" [.str (refusedText x) t'] → E (.ref e) { s with heap := h', toks := tk }) :
    wpC (model prog w) A ((int_private% "intFromObject") (.str x t)) Q E s := by
  have hs' : (List.takeWhile (fun x => x != 0) (if (x.cps.all fun x => decide (x < 128)) = true then x.cps.toList else Unicode.numberText x.cps.toList)).length ≤ 640 := hs
  have hr' : (int_private% "readNumeral") 0 10 (List.takeWhile (fun x => x != 0) (if (x.cps.all fun x => decide (x < 128)) = true then x.cps.toList else Unicode.numberText x.cps.toList)) = (int_private% "Numeral.invalid") := hr
  (conv => arg 3; whnf)
  rw [show (List.takeWhile (fun x => x != 0) (if (x.cps.all fun x => decide (x < 128)) = true then x.cps.toList else Unicode.numberText x.cps.toList)).length.decLe 640 = isTrue hs' from Subsingleton.elim _ _]
  (conv => arg 3; whnf)
  rw [hr']
  (conv => arg 3; whnf)
  refine wpC_ruleK ?_
  refine wpC_bindA (m := Sem.pure ()) (wpAny_pure ?_)
  dsimp only
  refine wpC_bindA (wpAny_of_eq (a := none) rfl ?_)
  dsimp only
  refine wpC_bindA (wpAny_pyRepr_str ?_ hsz)
  refine wpC_bindA (wpAny_mkStr ?_ hsz2)
  refine wpC_bindA (wpAny_newExc_plain (cls := "ValueError") plainExc_ValueError (fun h' e M => ?_) (Nat.le_of_ble_eq_true rfl))
  refine wpC_bind (markC (wpC_any (wpAny_raiseNew_none hh (h _ _ _ _ M))))
theorem codeC_builtin {id : String} {args : Args} {b : Builtin} {R : Result → Shared → Prop} (hb : entryFor table id = some b)
    (h : wpC (model prog w) (A.under (.builtin id args)) (b args) (fun fin s' => match fin with | .done f => R (.ok f) s' | .again c' => c'.quiet = true ∧ codeC (model prog w) A c' R s') (fun e s' => R (.error e) s') s) :
    codeC (model prog w) A (.builtin id args) R s := by
  refine codeC_of_tree ?_
  show wpC _ _ (match entryFor table id with | some b => b args | none => unsupported ((withoutEnding? id "#data").getD id)) _ _ s
  rw [hb]; exact h
end
end Mine
end
section
open PySem PySem.W PyProof.Rows PySem.Calls
set_option maxRecDepth 100000
namespace Mine
/-- the call of a law's function where the claim's caller stands below -/
theorem ends_C {prog : Program} {w : World} {t : Sem Fin} {s : Shared} {R : Result → Shared → Prop} (hz : s.asleep)
    (h : wpC (model prog w) callerA t (fun fin s' => ∃ f, fin = .done f ∧ R (.ok f) s' ∧ leftWithCleanup s'.gens = false) (fun e s' => R (.error e) s' ∧ leftWithCleanup s'.gens = false) s) :
    ∃ n r s' s'', runN (denote table) prog w n s ⟨t, .builtin "claim.caller" {}, default, []⟩ = .halted (outcomeOf r) s' ∧
      schedN (denote table) prog w n (.single s ⟨t, .builtin "claim.caller" {}, default, []⟩) = .halted (outcomeOf r) s' ∧ s'.forget = s''.forget ∧ R r s'' := by
  have hC : HasC ((Code.builtin "claim.caller" {}, (default : Pos)) :: []) := rfl
  have h0 := h _ default caller_in hC
  have h1 : Sem.wp (model prog w) ⟨.builtin "claim.caller" {}, none, none, [], none⟩ t (Sem.finPost (model prog w) ⟨.builtin "claim.caller" {}, none, none, [], none⟩ fun r s' => R r s' ∧ leftWithCleanup s'.gens = false) (fun e _ s' => R (.error e) s' ∧ leftWithCleanup s'.gens = false) default s :=
    Sem.wp_mono _ _ t (fun fin _ s' q => by obtain ⟨f, rfl, a, b⟩ := q; exact ⟨a, b⟩) (fun _ _ _ q => q) _ _ h0
  obtain ⟨n, r, s₁, s₂, hs, hn, hfo, hR⟩ := wp_halts_full (M := model prog w) (R := R) hz h1
  exact ⟨n, r, s₂, s₁, hn, hs, hfo, hR⟩
theorem callFrom_C {c : ClaimW} {tree : List Value → Sem Fin} {w : World} {s : Shared} {free : Addr → Prop} {gens : Prop} {kept : Heap → Prop} (hz : s.asleep) (hgens : s.gens = #[])
    (hspec : ∀ args, c.pre args = true → WData.layableAll args = true → ∀ ord : List DictEntry → List DictEntry, (∀ l, (ord l).Perm l) →
      ∃ vs s₁, layAllW c.records (classAt s.heap) w.params ord args s = some (vs, s₁) ∧
        wpC (model c.prog w) callerA (tree vs) (fun fin s' => ∃ f, fin = .done f ∧ (c.Ends s args vs s₁ (.ok f) s' ∧ s'.os = s.os ∧ AllBare s'.gens ∧ kept s'.heap))
          (fun e s' => c.Ends s args vs s₁ (.error e) s' ∧ s'.os = s.os ∧ AllBare s'.gens ∧ kept s'.heap) s₁) :
    c.CallFrom (fun vs => ⟨tree vs, .builtin "claim.caller" {}, default, []⟩) w free gens kept s := by
  intro args hpre hlay ord hord
  obtain ⟨vs, s₁, hl, hc⟩ := hspec args hpre hlay ord hord
  have rest := layAllW_rest _ _ _ hl
  obtain ⟨k, r, s', s'', hrun, hsched, hfo, hE, ho, hk⟩ := ends_C (R := fun r s' => c.Ends s args vs s₁ r s' ∧ s'.os = s.os ∧ kept s'.heap) (Shared.asleep_of_life rest.2.2.2 hz)
    (wpC_mono hc (fun fin s' q => by obtain ⟨f, e, a, b, d, g⟩ := q; exact ⟨f, e, ⟨a, b, g⟩, leftWithCleanup_false_of_bare d⟩) fun e s' q => by obtain ⟨a, b, d, g⟩ := q; exact ⟨⟨a, b, g⟩, leftWithCleanup_false_of_bare d⟩)
  obtain ⟨eh, _, _, eo, _⟩ := Shared.forget_eq hfo
  have hE' := hE.congr eh
  rw [← eh] at hk
  rw [← eo] at ho
  have hlife : s'.heap.life = s.heap.life := (runN_life _ _ _ hrun).trans rest.2.2.2
  refine ⟨vs, s₁, hl, k, _, s', hsched, ?_, (fun _ i x hx => by rw [hgens] at hx; simp at hx), hk, by rw [hlife], Shared.rest_eq ho⟩
  rcases hE' with ⟨v, rfl, d1, d2, d3, d4, d5⟩ | ⟨e, ob, cls, rfl, d1, d2, d3, d4, d5⟩
  · exact .inl ⟨v, rfl, d1, d2, d3, fun b o y _ => d4 b o y, d5⟩
  · exact .inr ⟨e, ob, cls, rfl, d1, d2, d3, d4, fun b o y _ => d5 b o y⟩
/-- WalkO at stacks that bear the caller -/
abbrev WalkOC (q : Program) (loose : List Str) (XP : (Str → Option Value) → Heap → Prop) (YP : World → Heap → Prop) (r : RowW) (d : DefRec) (kwd : List (Str × Expr)) : Prop :=
  ∀ (w : World) (s₀ s₁ : Shared) (mg mb : Str → Option Value), Ground q loose r.records XP w s₀ mg mb s₁.heap → YP w s₁.heap → ∀ (a : Addr) (o : Obj) (pm cd doc dV kV : Value), s₁.heap.get? a = some o →
    o.data = .func { docDef d.name d.params d.body d.scope pm cd doc with defaults := dV, kwdefaults := kV } → s₁.heap.CodeRec cd d.name → Dflts mg s₁.heap d.params kwd dV kV → mg d.name = some (.ref a) → s₁.gens = #[] →
    ∀ (args : List WData) (vals : List Value) (as : List Addr), r.claim.pre args = true → WData.layableAll args = true → ReadsAllW r.records (classAt s₀.heap) s₁.heap vals args as → WellAll w.params s₁.heap vals args → (∀ a ∈ as, (a == sysModules) = false) →
      wpC (model r.prog w) callerA (PySem.call (.ref a) vals) (fun v s' => GoodWG r.claim (classAt s₀.heap) (ExcName.means s₀.heap) args s₁ (.ok (.ret v)) s')
        (fun e s' => GoodWG r.claim (classAt s₀.heap) (ExcName.means s₀.heap) args s₁ (.error e) s') s₁
end Mine
open Mine
theorem Mine.PySem.W.holds_open {r : OpenRow} {q : Program} {loose : List Str} {Xt : Shared → Bool} {XP : (Str → Option Value) → Heap → Prop} {α : Type} {Yf : Shared → α} {Ya : World → α} {YP : World → Heap → Prop} {d : DefRec} {kwd : List (Str × Expr)} {N : Nat}
    (left : LeftO r.prog q loose Xt Yf Ya N) (hY : ∀ w s, Yf s = Ya w → YP w s.heap) (hYk : ∀ w h h', YP w h → (∀ b o, h.get? b = some o → h'.get? b = some o) → YP w h')
    (hX : ∀ s, Xt s = true → XP (s.heap.nsMap mainGlobals) s.heap) (hXk : ∀ mg h h', XP mg h → (∀ b o, h.get? b = some o → h'.get? b = some o) → XP mg h')
    (hdef : defOf q r.name = some (d, kwd)) (hp : r.prog.theDef r.name = some (d.params, d.body, d.scope)) (hk : kwWritten? d.params.kwonlyargs d.params.kw_defaults = some kwd) (hRf : ∀ s, Xt s = true → RecFacts r.records s.heap) (hwr : (!r.writes || r.records.isEmpty) = true)
    (k1 : r.wellSaid = true) (ok : (chainsOk q && opensWell r.prog && (frees r.toRowW && r.within.isEmpty)) = true) (hb : r.prog.bare) (hw : r.toRowW.promised)
    (call : WalkOC q loose XP YP r.toRowW d kwd) : r.Holds := by
  refine ⟨k1, hw, ?_⟩
  obtain ⟨ok, k5⟩ := Bool.and_eq_true_iff.mp ok
  obtain ⟨hch, o1⟩ := Bool.and_eq_true_iff.mp ok
  obtain ⟨k5, k6⟩ := Bool.and_eq_true_iff.mp k5
  obtain ⟨hsame, hu, ha, hap, hm⟩ := frees_parts k5
  refine ⟨⟨hb, o1, by show r.makers.map _ = []; rw [hm]; rfl⟩, hw.witness, fun w => ⟨(left.behind hX hch w).1, fun s' hs' => ?_⟩⟩
  obtain ⟨s₀, hf, hg0, s, hT, hz, hgens, hg, G00, y⟩ := (left.behind (XP := fun mg h => XP mg h ∧ RecFacts r.records h) (fun s hs => ⟨hX s hs, hRf s hs⟩) hch w).2 s' hs'
  have G0 : Ground q loose [] XP w s (s.heap.nsMap mainGlobals) (s.heap.nsMap builtinsNs) s.heap := ⟨G00.T, G00.B, G00.D, G00.TE, G00.TD, G00.W, G00.X.1, G00.cls, G00.has, G00.apart, G00.once, G00.K⟩
  have RF := G00.X.2
  refine ⟨s₀, hf, hg0, s, hT, fun n hn => ?_, RF.1, RF.2.1, ?_⟩
  · obtain rfl : n = r.name := by split at hn <;> simp_all
    exact pinned_of_view hg G0 hdef hp hk
  have hgens : s.gens = #[] := Array.eq_empty_of_size_eq_zero (beq_iff_eq.mp hgens)
  have G : Ground q loose r.records XP w s _ _ s.heap := RF.ground G0
  refine callFrom_C (c := r.toRowW.claim) hz hgens fun args hpre hlay ord hord => ?_
  obtain ⟨⟨vs, s₁⟩, hlaid⟩ := Option.isSome_iff_exists.mp (layAllW_isSome (P := w.params) (ord := ord) G.has args r.args s (pre_splitW hpre).1)
  have keeps := layAllW_keeps _ _ _ hlaid
  have rest := layAllW_rest _ _ _ hlaid
  obtain ⟨as, hrd, hin, hold⟩ := reads_layAllW hord _ _ _ hlaid hlay s₁.heap (fun _ _ e => e)
  have L : Laid r.records w s s₁ args vs as := ⟨⟨ord, hord, hlaid⟩, hrd, hin, hold, keeps, rest.1.trans hgens, rest.2.2.1⟩
  have G₁ := G.keeps hXk keeps
  obtain ⟨a, o, pm, cd, doc, dV, kV, h1, h2, h3, h4, h5⟩ := G₁.fn hdef
  have hcall := call w s s₁ _ _ G₁ (hYk _ _ _ (hY w s y) keeps) a o pm cd doc dV kV h2 h3 h4 h5 (defOf_name hdef ▸ h1) L.gens args vs as hpre hlay L.reads L.well (L.low G.low)
  have hi := ident_freeW hu ha hap
  have hwi : r.toRowW.claim.within = [] := List.isEmpty_iff.mp k6
  refine ⟨vs, s₁, hlaid, ?_⟩
  refine wpC_bindA (wpAny_nsGet G₁.T.g ?_)
  rw [h1]
  refine wpC_bind (wpC_mono hcall (fun v s' g => wpC_pure ?_) fun e s' g => ?_)
  · have z := g.laid (c := r.toRowW.claim) hsame hwi hi L
    exact ⟨_, rfl, z.1, z.2.1, z.2.2, fun q => ⟨namesKept_of hT hg _ keeps g.2.1.old, noTable hwr q⟩⟩
  · have z := g.laid (c := r.toRowW.claim) hsame hwi hi L
    exact ⟨z.1, z.2.1, z.2.2, fun q => ⟨namesKept_of hT hg _ keeps g.2.1.old, noTable hwr q⟩⟩
end
section
open PySem PySem.W PyProof.Rows
set_option maxRecDepth 100000
set_option maxHeartbeats 8000000
namespace Mine
open_top hd for PySem.Challenge.rw_km0086_07
end Mine
end
section
open PySem PySem.W PyProof.Rows PySem.Calls
set_option maxRecDepth 100000
namespace Mine
section
variable {prog : Program} {w : World} {A : Around} {E : Value → Shared → Prop} {s : Shared} {env : Env} {h₀ : Heap} {x : Str} {body : List Stmt} {Q : Flow → Shared → Prop}

/-- the end of a turn: the ledger holds the iterator, and what the word speaks of -/
def JEnd (h₀ : Heap) (L : Addr) (J : (Str → Option Value) → List (Addr × Obj) → Prop) (I : Addr) (oI : Obj) (s₁ s₂ : Shared) : Prop :=
  ∃ h' tk m' news' nx, s₂ = { s₁ with heap := h', toks := tk } ∧ Fr h₀ L h' m' ∧ News h₀ L h' news' ∧ (I, oI) ∈ news' ∧ (∀ p ∈ nx, p ∈ news') ∧ (∀ p ∈ nx, p.1 ≠ I) ∧ J m' nx
def JPost (h₀ : Heap) (L : Addr) (J : (Str → Option Value) → List (Addr × Obj) → Prop) (I : Addr) (oI : Obj) (s₁ : Shared) (Q : Flow → Shared → Prop) (f : Flow) (s₂ : Shared) : Prop :=
  match f with
  | .ret v => Q (.ret v) s₂
  | .brk => Q .next s₂
  | _ => JEnd h₀ L J I oI s₁ s₂
theorem JEnd.intro {L : Addr} {J : (Str → Option Value) → List (Addr × Obj) → Prop} {m' : Str → Option Value} {I : Addr} {oI : Obj} {news' : List (Addr × Obj)} (nx : List (Addr × Obj)) {s₁ : Shared} {h' : Heap} {tk : Nat} (F : Fr h₀ L h' m') (N : News h₀ L h' news')
    (hI : (I, oI) ∈ news') (hn : ∀ p ∈ nx, p ∈ news') (ho : ∀ p ∈ nx, p.1 ≠ I) (hj : J m' nx) : JEnd h₀ L J I oI s₁ { s₁ with heap := h', toks := tk } :=
  ⟨h', tk, m', news', nx, rfl, F, N, hI, hn, ho, hj⟩

end
theorem map_at {y : Str} {v : Option Value} {m : Str → Option Value} (h : m y = v) : m = fun z => if z = y then v else m z := by
  funext z; by_cases hz : z = y
  · simp only [if_pos hz]; rw [hz]; exact h
  · simp only [if_neg hz]

theorem nm1 {h₀ h : Heap} {L a : Addr} {oa : Obj} {r : List (Addr × Obj)} (_ : News h₀ L h ((a, oa) :: r)) {P : Prop} (k : ∀ a', a' = a → P) : P := k a rfl
theorem nmF {h₀ h : Heap} {L : Addr} {m : Str → Option Value} (_ : Fr h₀ L h m) {P : Prop} (k : ∀ m', m' = m → P) : P := k m rfl
theorem nmN {h₀ h : Heap} {L : Addr} {r : List (Addr × Obj)} (_ : News h₀ L h r) {P : Prop} (k : ∀ r', r' = r → P) : P := k r rfl

theorem news_lt {h₀ h : Heap} {L : Addr} {news : List (Addr × Obj)} (N : News h₀ L h news) : AllLt h.objs.size news := allLt_of fun p hp => Heap.lt_size (N p hp).1

section
variable {prog : Program} {w : World} {A : Around} {E : Value → Shared → Prop} {s : Shared} {env : Env} {h₀ : Heap} {target : Expr} {body : List Stmt} {Q : Flow → Shared → Prop}
end
theorem news_sub {h₀ h : Heap} {L : Addr} {nw nw' : List (Addr × Obj)} (N : News h₀ L h nw) (hs : ∀ p ∈ nw', p ∈ nw) : News h₀ L h nw' := fun p hp => N p (hs p hp)
theorem newsE {g h : Heap} {L a : Addr} {o : Obj} {nw : List (Addr × Obj)} (ha : h.get? a = some o ∧ a ≠ L ∧ g.get? a = none) (N : News g L h nw) : News g L h ((a, o) :: nw) := fun p hp => by
  rcases List.mem_cons.mp hp with rfl | hp
  · exact ha
  · exact N p hp
theorem consE {a b : Addr} {o : Obj} {nw : List (Addr × Obj)} (h : a ≠ b) (hn : ∀ p ∈ nw, p.1 ≠ b) : ∀ p ∈ (a, o) :: nw, p.1 ≠ b := fun p hp => by
  rcases List.mem_cons.mp hp with rfl | hp
  · exact h
  · exact hn p hp
end Mine
end
section
open PySem PySem.W PyProof.Rows PySem.Calls
set_option maxRecDepth 100000
namespace Mine
section
variable {prog : Program} {w : World} {A₀ A : Around} {s : Shared} {base h₀ : Heap} {outer : List Env} {L : Addr} {m : Str → Option Value} {news : List (Addr × Obj)} {K : Frag} {p : Program} {loose : List Str} {mean : ExcName → Option Value} {mg mb : Str → Option Value}
  {R : Result → Shared → Prop} {name qual : Str} {params : Arguments} {body : List Stmt} {scope : Scope} {dV kV doc pm cdv ct oc : Value} {an od : Option Addr} {osl : Array (Option Value)} {f : Addr} {args : Args} {binds : List (Str × Value)}
/-- a def is entered where the caller stands below -/
theorem codeC_def {env : Env} (B : Below A₀ base outer h₀) (F : Fr h₀ L s.heap m) (X₀ : K.In h₀) (N : News h₀ L s.heap news) (T : Top p loose mean mg mb h₀) (hA : A.frames = some (env :: outer)) (hf : env.frame = some L) (hke : env.scope.kind = .function)
    (ho : K.lookup f = some ⟨oc, od, .func (fnOf name qual params body scope dV kV doc pm an cdv ct), osl⟩) (hcd : codeIn K cdv qual = true) (hroom : A.depth < recursionLimit)
    (hbind : BindsTo s (fnOf name qual params body scope dV kV doc pm an cdv ct) args binds) (hloc : ∀ y ∈ binds, scope.names.lookup y.1 = some .local)
    (h : ∀ g L' h₁, Fr h₀ L g m → Fr g L' h₁ (fun y => binds.reverse.lookup y) → News g L' h₁ news → Below A base (env :: outer) g → K.In g → Top p loose mean mg mb g →
      wpC (model prog w) (A.deeper (envOf qual scope L' f cdv)) (execs body (envOf qual scope L' f cdv))
        (fun fl s' => LeaveK h₀ L m g R (match fl with | .ret v => v | _ => .none) s')
        (fun e s' => wpAny (model prog w) (A.deeper (envOf qual scope L' f cdv)) (leaving (envOf qual scope L' f cdv) e) (fun _ s'' => R (.error e) s'') (fun e' s'' => R (.error e') s'') s')
        { s with heap := h₁, toks := s.toks + binds.length })
    (hco : scope.isCoroutine = false) (hgen : scope.isGenerator = false) (hk : scope.kind = .function) (hcell : ∀ x ∈ scope.names, x.2 ≠ .cell) : codeC (model prog w) A (.call (.ref f) args) R s := by
  have X := X₀.keeps F.keep
  obtain ⟨FG, BG, st, lv⟩ := groundX (R := R) B F N hA hf hke
  refine codeC_call_def (fd := fnOf name qual params body scope dV kV doc pm an cdv ct) (body := body) (binds := binds) hroom (X _ _ ho) rfl (T.nolimit.keeps F.keep) (codeRec_of X hcd) rfl hbind hcell hloc (fun h₁ hns hk₁ => ?_) hco hgen hk
  refine wpC_mono (h _ s.heap.objs.size h₁ FG ⟨hns, fun b o e => hk₁ b o (of_hideAll _ e), Nat.le_of_eq (hideAll_size _ _)⟩ (fun q hq => ?_) BG (X₀.keeps st) (T.keeps st)) (fun fl s' hl => lv _ _ hl) fun _ _ y => y
  exact ⟨hk₁ _ _ (N q hq).1, Nat.ne_of_lt (Heap.lt_size (N q hq).1), hideAll_none _ (List.mem_map_of_mem hq)⟩
end
end Mine
end
section
open PySem PySem.W PyProof.Rows PySem.Calls
set_option maxRecDepth 100000
namespace Mine
section
variable {prog : Program} {w : World} {A : Around} {E : Value → Shared → Prop} {s : Shared} {env : Env} {h₀ : Heap} {x : Str} {px : Pos} {body : List Stmt} {Q : Flow → Shared → Prop}
/-- a `for` over a range, its body at stacks that bear the caller -/
theorem rangeC {r : Addr} {a₀ b₀ c : Int} {t₀ u₀ v₀ : Tok} {m₀ : Str → Option Value} {news : List (Addr × Obj)} (n : Nat)
    (J : Nat → (Str → Option Value) → List (Addr × Obj) → Prop) (hx : env.kindOf x = some .local) (hp : (env.scope.kind == .class || (env.scope.kind == .module && env.locals != env.globals)) = false)
    (hh : A.handled = none) (hr : IsRange s.heap r a₀ b₀ c t₀ u₀ v₀) (hsmall : Builtin.Range.small a₀ b₀ c = true) (hn : Builtin.Range.rangeSize a₀ b₀ c = (n : Int))
    (F : Fr h₀ env.locals s.heap m₀) (N : News h₀ env.locals s.heap news) (hj : J 0 m₀ news) (hE : PassesOwn (model prog w) A env E)
    (turn : ∀ i t m₁ nw h tk I oI, i < n → J i m₁ nw → (∀ p ∈ nw, p.1 ≠ I) → Fr h₀ env.locals h (fun y => if y = x then some (.int (a₀ + (i : Int) * c) t) else m₁ y) → News h₀ env.locals h ((I, oI) :: nw) →
      wpC (model prog w) A (execs body env) (JPost h₀ env.locals (J (i + 1)) I oI { s with heap := h, toks := tk } Q) E { s with heap := h, toks := tk })
    (done : ∀ m' nw h tk, J n m' nw → Fr h₀ env.locals h m' → News h₀ env.locals h nw → Q .next { s with heap := h, toks := tk }) :
    wpAny (model prog w) A (pyIter (.ref r)) (fun it s₂ => codeC (model prog w) A (.forLoop (.Name x px) it body [] env) (fun r s' => match r with | .ok f => Q f s' | .error e => cameBackBy (model prog w) A env E e s') s₂) E s := by
  refine wpAny_pyIter_range hr hsmall ?_
  have hnew := next_is_new F
  generalize hI : s.heap.objs.size = I at hnew ⊢
  have hLI : env.locals ≠ I := fun e => absurd F.ns.lt (by rw [e, ← hI]; exact Nat.lt_irrefl _)
  have W := Walks.range (prog := prog) (w := w) (A := A) hh I a₀ c n
  refine codeC_forLoop (fun k s' => ∃ h' tk m' nw i, s' = { s with heap := h', toks := tk } ∧ IsRangeIter h' I (a₀ + (i : Nat) * c) ((n : Int) - (i : Nat)) c ∧ Fr h₀ env.locals h' m' ∧ News h₀ env.locals h' nw ∧ (∀ p ∈ nw, p.1 ≠ I) ∧ J i m' nw ∧ i ≤ n ∧ k = n + 1 - i) ?_ (n + 1)
    ⟨_, _, m₀, news, 0, rfl, ?_, F.push _, fun p hq => ⟨Heap.get?_push_of_some _ (N p hq).1, (N p hq).2⟩, fun p hq e => ?_, hj, Nat.zero_le _, rfl⟩
  · rintro k s' ⟨h', tk, m', nw, i, rfl, hst, F', N', hoff, hJ, hi, rfl⟩
    have keep : ∀ h₁ : Heap, (∀ b o, b ∉ [I] → h'.get? b = some o → h₁.get? b = some o) → Fr h₀ env.locals h₁ m' ∧ News h₀ env.locals h₁ nw := fun h₁ hk => by
      refine ⟨⟨F'.ns.at' fun o e => hk _ o (fun q => hLI (List.mem_singleton.mp q)) e, fun b o e => hk b o (fun q => ?_) (F'.keep b o e), F'.above⟩, fun p hq => ⟨hk _ _ (fun q => hoff p hq (List.mem_singleton.mp q)) (N' p hq).1, (N' p hq).2⟩⟩
      rw [List.mem_singleton.mp q, hnew] at e
      cases e
    by_cases hlt : i < n
    · refine W.item i _ _ _ hlt hst fun v h₁ tk₁ hP hst₁ hk₁ => ?_
      obtain ⟨t, rfl⟩ := hP
      obtain ⟨F₁, N₁⟩ := keep h₁ hk₁
      refine wpAny_assign_Name (wpAny_storeName_local hx F₁.ns (fun h₂ hn₂ hs₂ => ?_) hp)
      have F₂ := F₁.set hn₂ hs₂
      have N₂ := N₁.set hs₂
      have hst₂ : IsRangeIter h₂ I (a₀ + ((i + 1 : Nat) : Int) * c) ((n : Int) - ((i + 1 : Nat) : Int)) c := W.frame (i + 1) _ _ hst₁ fun b hb o e => (hs₂.2 b fun q => hLI (by rw [← q, List.mem_singleton.mp hb])).trans e
      obtain ⟨oI, hoI⟩ : ∃ oI, h₂.get? I = some oI := ⟨_, hst₂⟩
      have N₃ : News h₀ env.locals h₂ ((I, oI) :: nw) := fun p hq => by
        rcases List.mem_cons.mp hq with rfl | hq
        · exact ⟨hoI, fun e => hLI e.symm, hnew⟩
        · exact N₂ p hq
      refine wpC_mono (turn i t m' nw h₂ _ I oI hlt hJ hoff F₂ N₃) (fun f s₃ q => ?_) hE
      have fin : JEnd h₀ env.locals (J (i + 1)) I oI { s with heap := h₂, toks := tk₁ + 1 } s₃ → ∃ m, m < n + 1 - i ∧ ∃ h' tk m' nw i, s₃ = { s with heap := h', toks := tk } ∧ IsRangeIter h' I (a₀ + (i : Nat) * c) ((n : Int) - (i : Nat)) c ∧ Fr h₀ env.locals h' m' ∧ News h₀ env.locals h' nw ∧ (∀ p ∈ nw, p.1 ≠ I) ∧ J i m' nw ∧ i ≤ n ∧ m = n + 1 - i := by
        rintro ⟨h₄, tk₄, m₄, nw₄, nx, rfl, F₄, N₄, hI₄, hx₄, ho₄, hJ₄⟩
        refine ⟨n + 1 - (i + 1), by omega, h₄, tk₄, m₄, nx, i + 1, rfl, ?_, F₄, fun p hq => N₄ p (hx₄ p hq), ho₄, hJ₄, hlt, rfl⟩
        have e1 := (N₄ _ hI₄).1
        have e2 : oI = _ := Option.some.inj (hoI.symm.trans hst₂)
        exact e1.trans (congrArg some e2)
      cases f with
      | ret v => exact q
      | brk => exact q
      | next => exact fin q
      | cont => exact fin q
    · obtain rfl : i = n := by omega
      refine W.done _ _ _ hst fun h₁ tk₁ hk₁ => ?_
      obtain ⟨F₁, N₁⟩ := keep h₁ hk₁
      exact wpAny_execs_nil (done m' nw h₁ tk₁ hJ F₁ N₁)
  · show IsRangeIter _ _ _ _ _
    rw [hn, ← hI]
    simpa using Heap.get?_push_size _ rfl
  · have := Heap.lt_size (N p hq).1
    rw [e, ← hI] at this
    exact Nat.lt_irrefl _ this
end
end Mine
end
section
open PySem PySem.W PyProof.Rows PySem.Calls
set_option maxRecDepth 100000
namespace Mine
section
variable {M : Model} {A : Around} {E : Value → Shared → Prop} {s : Shared} {env : Env}
theorem wpC_Assign_Sub {o i : Expr} {pos' : Pos} {value : Expr} {pos : Pos} {Q : Flow → Shared → Prop}
    (h : wpC M A (eval value env) (fun v s₁ => wpAny M A (eval o env) (fun ov s₂ => wpAny M A (eval i env) (fun iv s₃ => wpAny M A (setItem ov iv v) (fun _ => Q .next) E s₃) E s₂) E s₁) E s)
    (hs : swapsWith value (some (.Subscript o i pos')) pos.line env = pure false := by rfl) : wpC M A (exec (.Assign [.Subscript o i pos'] value pos) env) Q E s := fun Γ p hΓ hC => by
  simp only [exec_Assign_Subscript o i pos' value pos hs, assign_Subscript, Sem.wp_bind', Sem.wp_holding, Sem.wp_cmd_standAt, Sem.wp_release, Sem.wp_pure']
  refine Sem.wp_mono M Γ _ (fun v p₁ s₁ h₁ => ?_) (fun _ _ _ h' => h') _ _ (h Γ _ hΓ hC)
  exact Sem.wp_mono M Γ _ (fun ov p₂ s₂ h₂ => Sem.wp_mono M Γ _ (fun iv _ s₃ h₃ => h₃ Γ _ hΓ) (fun _ _ _ h' => h') _ _ (h₂ Γ p₂ hΓ)) (fun _ _ _ h' => h') _ _ (h₁ Γ p₁ hΓ)
theorem wpC_If {test : Expr} {body orelse : List Stmt} {pos : Pos} {Q : Flow → Shared → Prop}
    (h : wpAny M A (isTrue test env (eval test env)) (fun b s₂ => if b then wpC M A (execs body env) Q E s₂ else wpC M A (execs orelse env) Q E s₂) E s) : wpC M A (exec (.If test body orelse pos) env) Q E s := fun Γ p hΓ hC => by
  simp only [exec_If, Sem.wp_bind', Sem.wp_cmd_standAt]
  refine Sem.wp_mono M Γ _ (fun b p₂ s₂ h₂ => ?_) (fun _ _ _ h' => h') _ _ (h Γ _ hΓ)
  cases b <;> exact h₂ Γ p₂ hΓ hC
theorem wpC_execs_nil {Q : Flow → Shared → Prop} (h : Q .next s) : wpC M A (execs [] env) Q E s := wpC_any (wpAny_execs_nil h)
theorem wpC_Call_Name {x : Str} {p pos : Pos} {args : List Expr} {Q : Value → Shared → Prop}
    (h : wpAny M A (eval (.Name x p) env) (fun f s₁ => wpC M A (callWith pos f [] (backTo pos (starEach args env)) []) Q E s₁) E s) : wpC M A (eval (.Call (.Name x p) args [] pos) env) Q E s := by
  show wpC M A (do callWith pos (← eval (.Name x p) env) [] (backTo pos (starEach args env)) (backToKw pos (keywordEach [] env))) Q E s
  exact wpC_bindA h
theorem wpC_callWith_type {pos : Pos} {T : String} {e : Expr} {Q : Value → Shared → Prop}
    (h : wpAny M A (spliced (backTo pos (starEach [e] env))) (fun vs s₁ => wpC M A (call (.type T) vs) Q E s₁) E s) (he : starEach [e] env = (false, eval e env) :: starEach [] env := by rfl) :
    wpC M A (callWith pos (.type T) [] (backTo pos (starEach [e] env)) []) Q E s := by
  rw [he] at h ⊢
  unfold callWith
  refine wpC_bindA (wpAny_holding (wpAny_mono (evalArgs_plain (f := .type T) (Q := fun a s₁ => wpC M A (call (.type T) a.pos a.kw) Q E s₁) h) (fun a s₁ h₁ => wpC_standAt ?_) fun _ _ x => x))
  refine wpC_bindA (wpAny_pure ?_)
  exact wpC_bind (wpC_mono h₁ (fun r s₂ hr => wpC_bindA (wpAny_holding (wpAny_point (wpC_pure hr)))) fun _ _ x => x)
end
end Mine
end
section
open PySem PySem.W PyProof.Rows PySem.Calls
set_option maxRecDepth 100000
namespace Mine
section
variable {M : Model} {A : Around} {E : Value → Shared → Prop} {s : Shared} {env : Env}
theorem wpC_attempt {α : Type} {m : Sem α} {Q : Except Value α → Shared → Prop} (h : wpC M A m (fun a => Q (.ok a)) (fun e => Q (.error e)) s) :
    wpC M A m.attempt Q E s := fun Γ p hΓ hC => by rw [Sem.wp_attempt]; exact h Γ p hΓ hC
theorem wpC_tryStmt_except {body orelse : Sem Flow} {h₀ : ExceptHandler} {hs : List ExceptHandler} {Q : Flow → Shared → Prop}
    (h : wpC M A body (fun f s₁ => match f with | .next => wpAny M A orelse Q E s₁ | f => Q f s₁)
      (fun e s₁ => wpAny M A (noteFrame e env) (fun _ s₂ => wpAny M A (setFlight e none) (fun _ s₃ => wpAny M A (handleBy e env (h₀ :: hs)) Q E s₃) E s₂) E s₁) s) :
    wpC M A (tryStmt false body (h₀ :: hs) orelse [] env) Q E s := by
  unfold tryStmt
  simp only [List.isEmpty_nil, if_true, List.isEmpty_cons, Bool.false_and, Bool.false_eq_true, if_false]
  refine wpC_bind (wpC_attempt (wpC_mono h (fun f s₁ h₁ => ?_) fun e s₁ h₁ => ?_))
  · cases f <;> first | exact wpC_any h₁ | exact wpC_pure h₁
  · exact wpC_any (wpAny_bind (wpAny_mono h₁ (fun _ _ h₂ => wpAny_bind h₂) fun _ _ x => x))
theorem wpC_keep {α : Type} {vs : List Value} {m : Sem α} {Q : α → Shared → Prop} (h : wpC M A m Q E s) : wpC M A (m.keep vs) Q E s :=
  fun Γ p hΓ hC => by rw [Sem.wp_keep]; exact h Γ p hΓ hC
theorem wpC_callWith_fun {pos : Pos} {a : Addr} {o : Obj} {fd : FuncData} {e : Expr} {Q : Value → Shared → Prop} (hdat : o.data = .func fd)
    (h : wpAny M A (spliced (backTo pos (starEach [e] env))) (fun vs s₁ => s₁.heap.get? a = some o ∧ wpC M A (call (.ref a) vs) Q E s₁) E s) (he : starEach [e] env = (false, eval e env) :: starEach [] env := by rfl) :
    wpC M A (callWith pos (.ref a) [] (backTo pos (starEach [e] env)) []) Q E s := by
  rw [he] at h ⊢
  unfold callWith
  refine wpC_bindA (wpAny_holding (wpAny_mono (evalArgs_plain (f := .ref a) (Q := fun x s₁ => s₁.heap.get? a = some o ∧ wpC M A (call (.ref a) x.pos x.kw) Q E s₁) h) (fun x s₁ h₁ => wpC_standAt ?_) fun _ _ x => x))
  have tail : ∀ {t : Sem Value}, wpC M A t Q E s₁ → wpC M A (t >>= fun r => holding [r] point >>= fun _ => pure r) Q E s₁ :=
    fun ht => wpC_bind (wpC_mono ht (fun r s₂ hr => wpC_bindA (wpAny_holding (wpAny_point (wpC_pure hr)))) fun _ _ x => x)
  refine wpC_bindA (m := keeperOf (.ref a)) ?_
  unfold keeperOf
  refine wpAny_bind (wpAny_load h₁.1 ?_)
  rw [hdat]
  refine wpAny_pure ?_
  exact tail (by unfold callMarked; exact wpC_keep h₁.2)
end
section
variable {prog : Program} {w : World} {A : Around} {E : Value → Shared → Prop} {s : Shared} {env : Env}
theorem wpC_Try_except {body orelse : List Stmt} {h₀ : ExceptHandler} {hs : List ExceptHandler} {pos : Pos} {Q : Flow → Shared → Prop}
    (h : wpC (model prog w) A (execs body env) (fun f s₁ => match f with | .next => wpAny (model prog w) A (execs orelse env) Q E s₁ | f => Q f s₁)
      (fun e s₁ => wpAny (model prog w) A (noteFrame e env) (fun _ s₂ => wpAny (model prog w) A (setFlight e none) (fun _ s₃ => wpAny (model prog w) A (handleBy e env (h₀ :: hs)) Q E s₃) E s₂) E s₁) s) :
    wpC (model prog w) A (exec (.Try body (h₀ :: hs) orelse [] pos) env) Q E s := by
  rw [arm_exec_Try]
  exact wpC_bindA (wpAny_standAt (wpC_tryStmt_except h))
end
end Mine
end
section
open PySem PySem.W PyProof.Rows PySem.Calls
set_option maxRecDepth 100000
namespace Mine
section
variable {prog : Program} {w : World} {A : Around} {s : Shared} {R : Result → Shared → Prop}
theorem codeC_call_cells {a : Addr} {o : Obj} {fd : FuncData} {body : List Stmt} {args : Args} {binds : List (Str × Value)}
    (hroom : A.depth < recursionLimit) (ho : s.heap.get? a = some o) (hdata : o.data = .func fd) (hlim : s.heap.NoLimit) (hcd : s.heap.CodeRec fd.code fd.qualname)
    (hbody : fd.body = .stmts body) (hbind : BindsTo s fd args binds) (hclo : fd.closure = [])
    (hkind : ∀ x ∈ binds, fd.scope.names.lookup x.1 = some .local ∨ (fd.scope.names.lookup x.1 = some .cell ∧ ((cellsFrom (s.heap.objs.size + 1) fd.scope.names []).lookup x.1).isSome = true))
    (h : ∀ s₁, InCallC s (callEnvC fd s.heap.objs.size a).locals (bindL (callEnvC fd s.heap.objs.size a).kindOf binds fun _ => none) (callEnvC fd s.heap.objs.size a).cells
        (bindC (callEnvC fd s.heap.objs.size a).kindOf binds fun _ => none) s₁ →
      wpC (model prog w) (A.deeper (callEnvC fd s.heap.objs.size a)) (execs body (callEnvC fd s.heap.objs.size a)) (fun f s' => R (.ok (.ret (match f with | .ret v => v | _ => .none))) s')
        (fun e s' => wpAny (model prog w) (A.deeper (callEnvC fd s.heap.objs.size a)) (leaving (callEnvC fd s.heap.objs.size a) e) (fun _ s'' => R (.error e) s'') (fun e' s'' => R (.error e') s'') s') s₁)
    (hco : fd.scope.isCoroutine = false) (hgen : fd.scope.isGenerator = false) (hk : fd.scope.kind = .function) :
    codeC (model prog w) A (.call (.ref a) args) R s := by
  refine codeC_of_tree ?_
  show wpC _ A.in1 (callAny (.ref a) args) _ _ s
  simp only [callAny]
  refine wpC_bindA (wpAny_load ho ?_)
  obtain ⟨c, oc, vs, tq, hc, hoc, hdc, hq⟩ := hcd
  simp only [hdata, callFunction, hco, hgen, hbody, hc]
  refine wpC_bindA (m := field (.ref c) 1) (wpAny_field hoc hdc hq (wpC_bindA (wpAny_pure ?_)))
  rw [hclo]
  refine wpC_bindA (hbind _ _ _ _ (wpC_bindA (wpAny_newFunctionEnv_cells hk hkind fun env he s' x => ?_)))
  refine wpC_bindA (wpAny_enterFrame (hlim.keeps x.toInCall.keep) hroom (wpC_pure ⟨rfl, ?_⟩))
  subst he
  rw [← hc] at *
  exact codeC_func (h s' x)
end
end Mine
end
section
open PySem PySem.W PyProof.Rows PySem.Calls
set_option maxRecDepth 100000
namespace Mine
theorem mem_fr {env : Env} {outer : List Env} {L b : Addr} (hf : env.frame = some L) (h : b ∈ (env :: outer).filterMap (·.frame)) : b = L ∨ b ∈ outer.filterMap (·.frame) := by
  rw [List.filterMap_cons, hf] at h
  exact List.mem_cons.mp h
section
variable {prog : Program} {w : World} {A₀ A : Around} {s : Shared} {base h₀ g₀ : Heap} {outer : List Env} {L : Addr} {m : Str → Option Value} {env : Env} {news : List (Addr × Obj)} {K : Frag} {p : Program} {loose : List Str} {mean : ExcName → Option Value} {mg mb : Str → Option Value}
    {R : Result → Shared → Prop} {name qual : Str} {params : Arguments} {body : List Stmt} {scope : Scope} {dV kV doc pm cdv ct oc : Value} {an od : Option Addr} {osl : Array (Option Value)} {f : Addr} {args : Args} {binds : List (Str × Value)}
/-- what is seen of the caller's ground when a def is left whose callees may have caught -/
theorem leaveSX {v : Value} {s' : Shared} (B : Below A₀ base outer h₀) (F : Fr h₀ L s.heap m) (N : News h₀ L s.heap news) (XB : K.In base) (TB : Top p loose mean mg mb base) (D : KtsDicts (outer.filterMap (·.frame)) h₀)
    (T0 : KtsTurn (outer.filterMap (·.frame)) g₀ h₀) (hA : A.frames = some (env :: outer)) (hf : env.frame = some L) (hke : env.scope.kind = .function)
    (hl : LeaveS ((env :: outer).filterMap (·.frame)) A₀ base outer K p loose mean mg mb g₀ h₀ L m (hideAll s.heap (news.map (·.1))) R v s') : R (.ok (.ret v)) s' := by
  obtain ⟨FG, _, st, _⟩ := groundX (R := R) B F N hA hf hke
  obtain ⟨oL, es, ep, hLg, hLd, hLk, hLf⟩ := FG.ns
  have hN : ∀ h' : Heap, h'.get? L = some oL → Heap.Ns h' L m := fun h' e => ⟨oL, es, ep, e, hLd, hLk, hLf⟩
  have hNs : ∀ (sl : Array (Option Value)) (h' : Heap), h'.get? L = some { oL with slots := sl } → Heap.Ns h' L m := fun sl h' e => ⟨_, es, ep, e, hLd, hLk, hLf⟩
  have nL₀ : h₀.get? L = none := kts_self F
  rcases hl with ⟨L', m', news', F', N', k⟩ | ⟨g', L', m', news', T', F', N', k⟩
  · refine k ⟨hN _ (F'.keep _ _ hLg), fun b o e => F'.keep b o (st b o e), F.above⟩ fun q hq => ⟨(N' q hq).1, fun e => ?_, ?_⟩
    · have := (N' q hq).2.2
      rw [e, hLg] at this
      cases this
    · cases e : h₀.get? q.1 with
      | none => rfl
      | some o =>
        have := (N' q hq).2.2
        rw [st _ _ e] at this
        cases this
  obtain ⟨sl, hs⟩ := T'.up hLg
  obtain ⟨T₁, S₁⟩ := kts_turn_at (h := s'.heap) (fs := outer.filterMap (·.frame)) (g := h₀)
    (fun b hb => by
      obtain ⟨_, o, ho', _⟩ := B.frames.mem hb
      exact ⟨o, ho'⟩)
    (fun b o e nmem => F'.keep b o (T'.other b o (st b o e) (fun q => by
      rcases mem_fr hf q with z | z
      · rw [z, nL₀] at e
        cases e
      · exact nmem z)))
    (fun b o e hm => by
      obtain ⟨sl', hs'⟩ := T'.up (st b o e)
      exact ⟨sl', F'.keep _ _ hs'⟩)
  have B₃ : Below A₀ base outer (ktsHeap s'.heap (outer.filterMap (·.frame)) h₀) := ⟨B.stack, fun b o e => T₁.other b o (B.stays b o e) (fun hm => by
    rw [(B.frames.mem hm).1] at e
    cases e), B.frames.of_keeps fun b o e _ => by
    obtain ⟨sl', hs'⟩ := T₁.up e
    exact ⟨_, hs', rfl⟩⟩
  refine k _ (T0.trans T₁) ⟨hNs sl _ (F'.keep _ _ hs), S₁, by rw [T₁.size]; exact F.above⟩ (fun q hq => ⟨(N' q hq).1, fun e => ?_, ?_⟩) B₃ (XB.keeps B₃.stays) (TB.keeps B₃.stays) (D.turn T₁)
  · have := (N' q hq).2.2
    rw [e, hs] at this
    cases this
  · refine T₁.none_ _ ?_
    cases e : h₀.get? q.1 with
    | none => rfl
    | some o =>
      obtain ⟨sl', hs'⟩ := T'.up (st _ _ e)
      have := (N' q hq).2.2
      rw [hs'] at this
      cases this
theorem dictsX (F : Fr h₀ L s.heap m) (B : Below A₀ base outer h₀) (N : News h₀ L s.heap news) (D : KtsDicts (outer.filterMap (·.frame)) h₀) (hA : A.frames = some (env :: outer)) (hf : env.frame = some L) (hke : env.scope.kind = .function) :
    KtsDicts ((env :: outer).filterMap (·.frame)) (hideAll s.heap (news.map (·.1))) := fun b hb => by
  obtain ⟨FG, _, st, _⟩ := groundX (R := fun _ _ => True) B F N hA hf hke
  obtain ⟨oL, es, ep, hLg, hLd, hLk, hLf⟩ := FG.ns
  rcases mem_fr hf hb with rfl | hb
  · exact ⟨oL, es, ep, hLg, hLd⟩
  · obtain ⟨o, es', n', ho', hd'⟩ := D b hb
    exact ⟨o, es', n', st b o ho', hd'⟩
/-- a def that catches, called from any def, at stacks that bear the caller -/
theorem codeC_defSX (B : Below A₀ base outer h₀) (F : Fr h₀ L s.heap m) (X₀ : K.In h₀) (N : News h₀ L s.heap news) (T : Top p loose mean mg mb h₀) (XB : K.In base) (TB : Top p loose mean mg mb base) (D : KtsDicts (outer.filterMap (·.frame)) h₀)
    (T0 : KtsTurn (outer.filterMap (·.frame)) g₀ h₀) (hA : A.frames = some (env :: outer)) (hf : env.frame = some L) (hke : env.scope.kind = .function)
    (ho : K.lookup f = some ⟨oc, od, .func (fnOf name qual params body scope dV kV doc pm an cdv ct), osl⟩) (hcd : codeIn K cdv qual = true) (hroom : A.depth < recursionLimit)
    (hbind : BindsTo s (fnOf name qual params body scope dV kV doc pm an cdv ct) args binds) (hloc : ∀ y ∈ binds, scope.names.lookup y.1 = some .local)
    (h : ∀ g L' h₁, Fr h₀ L g m → Fr g L' h₁ (fun y => binds.reverse.lookup y) → News g L' h₁ news → Below A base (env :: outer) g → K.In g → Top p loose mean mg mb g → KtsDicts ((env :: outer).filterMap (·.frame)) g →
      wpC (model prog w) (A.deeper (envOf qual scope L' f cdv)) (execs body (envOf qual scope L' f cdv))
        (fun fl s' => LeaveS ((env :: outer).filterMap (·.frame)) A₀ base outer K p loose mean mg mb g₀ h₀ L m g R (match fl with | .ret v => v | _ => .none) s')
        (fun e s' => wpAny (model prog w) (A.deeper (envOf qual scope L' f cdv)) (leaving (envOf qual scope L' f cdv) e) (fun _ s'' => R (.error e) s'') (fun e' s'' => R (.error e') s'') s')
        { s with heap := h₁, toks := s.toks + binds.length })
    (hco : scope.isCoroutine = false) (hgen : scope.isGenerator = false) (hk : scope.kind = .function)
    (hcell : ∀ x ∈ scope.names, x.2 ≠ .cell) : codeC (model prog w) A (.call (.ref f) args) R s := by
  have X := X₀.keeps F.keep
  obtain ⟨FG, B₂, st, _⟩ := groundX (R := R) B F N hA hf hke
  refine codeC_call_def (fd := fnOf name qual params body scope dV kV doc pm an cdv ct) (body := body) (binds := binds) hroom (X _ _ ho) rfl (T.nolimit.keeps F.keep) (codeRec_of X hcd) rfl hbind hcell hloc (fun h₁ hns hk₁ => ?_) hco hgen hk
  exact wpC_mono (h _ s.heap.objs.size h₁ FG ⟨hns, fun b o e => hk₁ b o (of_hideAll _ e), Nat.le_of_eq (hideAll_size _ _)⟩
    (fun q hq => ⟨hk₁ _ _ (N q hq).1, Nat.ne_of_lt (Heap.lt_size (N q hq).1), hideAll_none _ (List.mem_map_of_mem hq)⟩) B₂ (X₀.keeps st) (T.keeps st) (dictsX F B N D hA hf hke)) (fun fl s' hl => leaveSX B F N XB TB D T0 hA hf hke hl) fun _ _ y => y
end
end Mine
end
section
open PySem PySem.W PyProof.Rows PySem.Calls
set_option maxRecDepth 100000
namespace Mine
section
variable {M : Model} {A : Around} {E : Value → Shared → Prop} {s : Shared}
/-- a new exception is noted in the frame that made it -/
theorem note_made {base h : Heap} {env : Env} {outer : List Env} {L e : Addr} {cls : Value} {args : List Value} {Q : Unit → Shared → Prop}
    (hfr : A.frames = some (env :: outer)) (hf : env.frame = some L) (hkb : base.StaysIn h) (hl : h.FunFrames base (env :: outer)) (hx : Heap.MadeExcOf h s.heap e cls args)
    (hQ : ∀ h' t, Heap.HeldW base (env :: outer) e cls (.ref t) L h' → h'.TupAt t args → base.get? t = none → s.heap.UpToSlots h' → Q () { s with heap := h' }) : wpAny M A (noteFrame (.ref e) env) Q E s := by
  obtain ⟨t, he, htn, ht⟩ := hx.there
  have fresh : ∀ b, h.get? b = none → base.get? b = none := fun b hb => by
    cases hq : base.get? b with
    | none => rfl
    | some o' =>
      have := hkb b o' hq
      rw [hb] at this
      cases this
  unfold noteFrame
  simp only [hf]
  refine wpAny_bind (wpAny_field he rfl (show _ = some Value.none from rfl) ?_)
  rw [if_neg (show ¬((Value.none != Value.none) = true) by decide)]
  refine wpAny_entryW (a0 := .ref t) hfr (hl.of_keeps fun b o hb _ => ⟨o, hx.keeps b o hb, rfl⟩) hf he (fun b o hb => hx.keeps b o (hkb b o hb)) (fresh e hx.new) rfl (show 1 < 6 by decide) rfl fun h' hN => ?_
  obtain ⟨k1, k2, k3, k4⟩ := hN
  exact hQ h' t ⟨k1, fresh e hx.new, k2, k3⟩ (Heap.TupAt.of_slots ⟨_, _, ht, rfl, rfl⟩ k4) (fresh t htn) k4
end
section
variable {prog : Program} {w : World} {A₀ : Around} {E : Value → Shared → Prop} {s' : Shared} {base g h : Heap} {outer : List Env} {L a e : Addr} {m : Str → Option Value} {name : Str} {scope : Scope} {cd cls : Value} {vs : List Value} {news : List (Addr × Obj)} {hs : List ExceptHandler} {Q : Flow → Shared → Prop}
/-- an exception made in the very frame that looks at it -/
theorem look_made (K : Below A₀ base outer g) (hx : Heap.MadeExcOf h s'.heap e cls vs) (F : Fr g L h m) (N : News g L h news)
    (k : ∀ h' t G, Fr g L G m → RaisedS base G (envOf name scope L a cd :: outer) e cls t vs news h' → G.UpToSlots h' → wpAny (model prog w) (A₀.deeper (envOf name scope L a cd)) (handleBy (.ref e) (envOf name scope L a cd) hs) Q E { s' with heap := h' })
    (hk : scope.kind = .function := by rfl) :
    wpAny (model prog w) (A₀.deeper (envOf name scope L a cd)) (noteFrame (.ref e) (envOf name scope L a cd))
      (fun _ s₂ => wpAny (model prog w) (A₀.deeper (envOf name scope L a cd)) (setFlight (.ref e) none) (fun _ s₃ =>
        wpAny (model prog w) (A₀.deeper (envOf name scope L a cd)) (handleBy (.ref e) (envOf name scope L a cd) hs) Q E s₃) E s₂) E s' := by
  have K' := K.push (name := name) (a := a) (cd := cd) F hk
  have hin : ∀ env ∈ (envOf name scope L a cd :: outer), ∀ b, env.frame = some b → b ∈ (envOf name scope L a cd :: outer).filterMap (·.frame) := fun env he b hb => List.mem_filterMap.mpr ⟨env, he, hb⟩
  have st : base.StaysIn (hideAll h ((envOf name scope L a cd :: outer).filterMap (·.frame))) := fun b o q => hideAll_get _ (K'.stays b o q) fun hm => by
    rw [(K'.frames.mem hm).1] at q
    cases q
  have nm : ∀ b o, g.get? b = some o → b ∉ news.map (·.1) := fun b o e q => by
    obtain ⟨p, hp, rfl⟩ := List.mem_map.mp q
    rw [(N p hp).2.2] at e
    cases e
  have nL : L ∉ news.map (·.1) := fun q => by
    obtain ⟨p, hp, e⟩ := List.mem_map.mp q
    exact (N p hp).2.1 e
  have FG : Fr g L (hideAll h (news.map (·.1))) m := ⟨F.ns.at' fun o q => hideAll_get _ q nL, fun b o q => hideAll_get _ (F.keep b o q) (nm b o q), F.above⟩
  have sg : ∀ b o, (hideAll h (news.map (·.1))).get? b = some o → b ∉ (envOf name scope L a cd :: outer).filterMap (·.frame) → (hideAll h ((envOf name scope L a cd :: outer).filterMap (·.frame))).get? b = some o := fun b o q nf => hideAll_get _ (of_hideAll _ q) nf
  have hl : ∀ q ∈ news, (hideAll h ((envOf name scope L a cd :: outer).filterMap (·.frame))).get? q.1 = some q.2 ∧ (hideAll h (news.map (·.1))).get? q.1 = none ∧ base.get? q.1 = none := fun q hq => by
    refine ⟨hideAll_get _ (N q hq).1 fun hm => ?_, hideAll_none _ (List.mem_map_of_mem hq), fresh_of_stays K.stays (N q hq).2.2⟩
    obtain ⟨env, he, hf⟩ := List.mem_filterMap.mp hm
    rcases List.mem_cons.mp he with rfl | he
    · exact (N q hq).2.1 (Option.some.inj hf).symm
    · obtain ⟨o, ho, _⟩ := (K.frames.mem (List.mem_filterMap.mpr ⟨env, he, hf⟩)).2
      rw [(N q hq).2.2] at ho
      cases ho
  refine note_made K'.stack rfl (fun b o q => of_hideAll _ q) (funFrames_hide K'.frames hin) hx fun h₄ t x1 x2 x3 x4 => ?_
  refine wpAny_landsW x1 fun h₅ y1 y2 => ?_
  refine k h₅ t _ FG ⟨⟨_, st, sg, hl, y1, x3⟩, x2.of_slots y2⟩ ?_
  exact ((Heap.UpToSlots.of_keeps fun b o q => hx.keeps b o (of_hideAll _ q)).trans x4).trans y2
end
end Mine
end
section
open PySem PySem.W PyProof.Rows PySem.Calls PySem.NumText
set_option maxRecDepth 100000
set_option maxHeartbeats 4000000
namespace Mine
section
variable {prog : Program} {w : World} {A : Around} {E : Value → Shared → Prop} {s : Shared}
theorem objC2 {x : PySem.Str} {t : Tok} {Q : Value → Shared → Prop} {i : Int} (hs : (numSeenOf x).length ≤ 640) (hr : (int_private% "readNumeral") 0 10 (numSeenOf x) = (int_private% "Numeral.value") i) (hl : ¬ ((numSeenOf x).length == (numTextOf x).length) = true) (hh : A.handled = none) (hsz : (reprText x).length ≤ sizeLine) (hsz2 : (refusedText x).length ≤ sizeLine)
    (h : ∀ h' tk e t', Heap.MadeExc s.heap h' e "ValueError" [.str (refusedText x) t'] → E (.ref e) { s with heap := h', toks := tk }) :
    wpC (model prog w) A ((int_private% "intFromObject") (.str x t)) Q E s := by
  have hs' : (List.takeWhile (fun x => x != 0) (if (x.cps.all fun x => decide (x < 128)) = true then x.cps.toList else Unicode.numberText x.cps.toList)).length ≤ 640 := hs
  have hr' : (int_private% "readNumeral") 0 10 (List.takeWhile (fun x => x != 0) (if (x.cps.all fun x => decide (x < 128)) = true then x.cps.toList else Unicode.numberText x.cps.toList)) = (int_private% "Numeral.value") i := hr
  have hl' : ¬ ((List.takeWhile (fun x => x != 0) (if (x.cps.all fun x => decide (x < 128)) = true then x.cps.toList else Unicode.numberText x.cps.toList)).length == (if (x.cps.all fun x => decide (x < 128)) = true then x.cps.toList else Unicode.numberText x.cps.toList).length) = true := hl
  (conv => arg 3; whnf)
  rw [show (List.takeWhile (fun x => x != 0) (if (x.cps.all fun x => decide (x < 128)) = true then x.cps.toList else Unicode.numberText x.cps.toList)).length.decLe 640 = isTrue hs' from Subsingleton.elim _ _]
  (conv => arg 3; whnf)
  rw [hr']
  (conv => arg 3; whnf)
  rw [show instDecidableEqBool ((List.takeWhile (fun x => x != 0) (if (x.cps.all fun x => decide (x < 128)) = true then x.cps.toList else Unicode.numberText x.cps.toList)).length == (if (x.cps.all fun x => decide (x < 128)) = true then x.cps.toList else Unicode.numberText x.cps.toList).length) true = isFalse hl' from Subsingleton.elim _ _]
  (conv => arg 3; whnf)
  refine wpC_ruleK ?_
  refine wpC_bindA (m := Sem.pure ()) (wpAny_pure ?_)
  dsimp only
  refine wpC_bindA (wpAny_of_eq (a := none) rfl ?_)
  dsimp only
  refine wpC_bindA (wpAny_pyRepr_str ?_ hsz)
  refine wpC_bindA (wpAny_mkStr ?_ hsz2)
  refine wpC_bindA (wpAny_newExc_plain (cls := "ValueError") plainExc_ValueError (fun h' e M => ?_) (Nat.le_of_ble_eq_true rfl))
  refine wpC_bind (markC (wpC_any (wpAny_raiseNew_none hh (h _ _ _ _ M))))
theorem call_int_via {x : PySem.Str} {t : Tok} {Q : Value → Shared → Prop} (ho : ∀ (A' : Around) (Q' : Value → Shared → Prop) (E' : Value → Shared → Prop), A'.handled = A.handled → (∀ h' tk e t', Heap.MadeExc s.heap h' e "ValueError" [.str (refusedText x) t'] → E' (.ref e) { s with heap := h', toks := tk }) → wpC (model prog w) A' ((int_private% "intFromObject") (.str x t)) Q' E' s)
    (h : ∀ h' tk e t', Heap.MadeExc s.heap h' e "ValueError" [.str (refusedText x) t'] → E (.ref e) { s with heap := h', toks := tk }) :
    wpC (model prog w) A (call (.type "int") [.str x t]) Q E s := by
  refine wpC_call (codeC_of_tree ?_)
  show wpC _ _ (callAny (.type "int") _) _ _ _
  refine wpC_pure ⟨Code.quiet_builtin _ (by decide +kernel), codeC_builtin F.entry_type_call ?_⟩
  (conv => arg 3; whnf)
  refine wpC_bindA (m := Bind.madeBy (Value.type "int")) (wpAny_of_eq F.called_int.made ?_)
  dsimp only
  refine wpC_bindA (wpAny_pure ?_)
  refine wpC_bind (wpC_holding (wpC_call (codeC_of_tree ?_)))
  show wpC _ _ (do checkBuiltinCall "int.__new__" ⟨[.type "int", .str x t], []⟩; again (.builtin "int.__new__" ⟨[.type "int", .str x t], []⟩)) _ _ _
  refine wpC_bindA (wpAny_of_eq (F.newCall_int_1 _) (wpC_pure ⟨Code.quiet_builtin _ (by decide +kernel), codeC_builtin F.entry_int_new ?_⟩))
  (conv => arg 3; whnf)
  refine wpC_bindA (m := Bind.madeHere "int.__new__" (Value.type "int")) (wpAny_of_eq F.madeHere_int ?_)
  (conv => arg 3; whnf)
  exact wpC_bind (m := (int_private% "intFromObject") (.str x t)) (wpC_mono (Q := fun _ _ => False) (ho _ _ _ rfl h) (fun _ _ z => z.elim) fun _ _ z => z)
theorem refused_len {x : PySem.Str} (hc : ∀ c ∈ x.cps.toList, c < 16 ^ 8) (hx : x.length ≤ 200) : (reprText x).length ≤ sizeLine ∧ (refusedText x).length ≤ sizeLine := by
  have h1 := PySem.StrLaws.reprText_len x hc
  have h2 : (refusedText x).length ≤ 300 := by
    unfold refusedText
    rw [strLen_append]
    have e1 : (Str.ofString (toString "invalid literal for int() with base " ++ toString 10 ++ toString ": ")).length = 40 := by decide +kernel
    have e2 : ({ cps := (reprText x).cps.extract 0 200 } : PySem.Str).length ≤ 200 := by
      show ((reprText x).cps.extract 0 200).size ≤ 200
      rw [Array.size_extract]
      omega
    omega
  refine ⟨Nat.le_trans h1 (Nat.le_trans (by omega : 10 * x.length + 2 ≤ 2002) (by decide)), Nat.le_trans h2 (by decide)⟩
/-- int of a text: what it reads, or the refusal -/
theorem call_int_text {x : PySem.Str} {t : Tok} {Q : Value → Shared → Prop} (hx : x.length ≤ 200) (hc : ∀ c ∈ x.cps.toList, c < 16 ^ 8) (hh : A.handled = none)
    (hsome : ∀ n, PySem.intText? x = some n → Q (.int n s.toks) { s with toks := s.toks + 1 })
    (hnone : PySem.intText? x = none → ∀ h' tk e t', Heap.MadeExc s.heap h' e "ValueError" [.str (refusedText x) t'] → E (.ref e) { s with heap := h', toks := tk }) :
    wpC (model prog w) A (call (.type "int") [.str x t]) Q E s := by
  have hs : (numSeenOf x).length ≤ 640 := Nat.le_trans (seen_length x) (by omega)
  obtain ⟨r1, r2⟩ := refused_len hc hx
  rcases read0 x hs with ⟨n, h1, h2, h3⟩ | ⟨h1, h2 | ⟨i, h2, h3⟩⟩
  · exact wpC_any (KIN.call_text h1 (by omega) (hsome n h1))
  · exact call_int_via (fun A' Q' E' e h => objC hs h2 (e.trans hh) r1 r2 h) (hnone h1)
  · exact call_int_via (fun A' Q' E' e h => objC2 hs h2 h3 (e.trans hh) r1 r2 h) (hnone h1)
end
end Mine
end
section
open PySem PySem.W PyProof.Rows PySem.Calls
set_option maxRecDepth 100000
namespace Mine
def BEnd (h₀ : Heap) (L : Addr) (Bk : (Str → Option Value) → List (Addr × Obj) → Prop) (s₁ s₂ : Shared) : Prop :=
  ∃ h' tk m' nw, s₂ = { s₁ with heap := h', toks := tk } ∧ Fr h₀ L h' m' ∧ News h₀ L h' nw ∧ Bk m' nw
def JPostB (h₀ : Heap) (L : Addr) (J Bk : (Str → Option Value) → List (Addr × Obj) → Prop) (I : Addr) (oI : Obj) (s₁ : Shared) (Q : Flow → Shared → Prop) (f : Flow) (s₂ : Shared) : Prop :=
  match f with
  | .ret v => Q (.ret v) s₂
  | .brk => BEnd h₀ L Bk s₁ s₂
  | _ => JEnd h₀ L J I oI s₁ s₂
section
variable {prog : Program} {w : World} {A : Around} {E : Value → Shared → Prop} {s : Shared} {env : Env} {h₀ : Heap} {x : Str} {px : Pos} {body : List Stmt} {Q : Flow → Shared → Prop}
theorem rangeCB {r : Addr} {a₀ b₀ c : Int} {t₀ u₀ v₀ : Tok} {m₀ : Str → Option Value} {news : List (Addr × Obj)} (n : Nat)
    (J : Nat → (Str → Option Value) → List (Addr × Obj) → Prop) (Bk : (Str → Option Value) → List (Addr × Obj) → Prop) (hx : env.kindOf x = some .local) (hp : (env.scope.kind == .class || (env.scope.kind == .module && env.locals != env.globals)) = false)
    (hh : A.handled = none) (hr : IsRange s.heap r a₀ b₀ c t₀ u₀ v₀) (hsmall : Builtin.Range.small a₀ b₀ c = true) (hn : Builtin.Range.rangeSize a₀ b₀ c = (n : Int))
    (F : Fr h₀ env.locals s.heap m₀) (N : News h₀ env.locals s.heap news) (hj : J 0 m₀ news) (hE : PassesOwn (model prog w) A env E)
    (turn : ∀ i t m₁ nw h tk I oI, i < n → J i m₁ nw → (∀ p ∈ nw, p.1 ≠ I) → Fr h₀ env.locals h (fun y => if y = x then some (.int (a₀ + (i : Int) * c) t) else m₁ y) → News h₀ env.locals h ((I, oI) :: nw) →
      wpC (model prog w) A (execs body env) (JPostB h₀ env.locals (J (i + 1)) Bk I oI { s with heap := h, toks := tk } Q) E { s with heap := h, toks := tk })
    (hJ : ∀ m nw, J n m nw → Bk m nw) (after : ∀ m' nw h tk, Bk m' nw → Fr h₀ env.locals h m' → News h₀ env.locals h nw → Q .next { s with heap := h, toks := tk }) :
    wpAny (model prog w) A (pyIter (.ref r)) (fun it s₂ => codeC (model prog w) A (.forLoop (.Name x px) it body [] env) (fun r s' => match r with | .ok f => Q f s' | .error e => cameBackBy (model prog w) A env E e s') s₂) E s := by
  refine rangeC n J hx hp hh hr hsmall hn F N hj hE (fun i t m₁ nw h tk I oI hi hJi hoff F1 N1 => wpC_mono (turn i t m₁ nw h tk I oI hi hJi hoff F1 N1) (fun f s₂ q => ?_) fun _ _ e => e) fun m' nw h tk hJn F1 N1 => after m' nw h tk (hJ _ _ hJn) F1 N1
  cases f with
  | ret v => exact q
  | next => exact q
  | cont => exact q
  | brk =>
    obtain ⟨h', tk', m', nw', rfl, F2, N2, hb⟩ := q
    exact after m' nw' h' tk' hb F2 N2
end
/-- a map with known entries -/
theorem known4 {a b c d : Str} {v1 v2 v3 v4 : Option Value} {m : Str → Option Value} (h1 : m a = v1) (h2 : m b = v2) (h3 : m c = v3) (h4 : m d = v4) : m = fun z => if z = a then v1 else if z = b then v2 else if z = c then v3 else if z = d then v4 else m z := by
  funext z
  by_cases e1 : z = a
  · rw [if_pos e1, e1, h1]
  · by_cases e2 : z = b
    · rw [if_neg e1, if_pos e2, e2, h2]
    · by_cases e3 : z = c
      · rw [if_neg e1, if_neg e2, if_pos e3, e3, h3]
      · by_cases e4 : z = d
        · rw [if_neg e1, if_neg e2, if_neg e3, if_pos e4, e4, h4]
        · rw [if_neg e1, if_neg e2, if_neg e3, if_neg e4]
theorem known5 {a b c d e : Str} {v1 v2 v3 v4 v5 : Option Value} {m : Str → Option Value} (h1 : m a = v1) (h2 : m b = v2) (h3 : m c = v3) (h4 : m d = v4) (h5 : m e = v5) : m = fun z => if z = a then v1 else if z = b then v2 else if z = c then v3 else if z = d then v4 else if z = e then v5 else m z := by
  have e1 := known4 h2 h3 h4 h5
  funext z
  by_cases e0 : z = a
  · rw [if_pos e0, e0, h1]
  · rw [if_neg e0]
    exact congrFun e1 z
end Mine
end
section
open PySem PySem.W PyProof.Rows PySem.Calls
set_option maxRecDepth 100000
set_option maxHeartbeats 4000000
namespace Mine
theorem owner_map : Manifest.owners.lookup (String.ofList ['p', 'a', 'm'].reverse) = some Manifest.sig_map := by kernel_rfl
theorem slot_map_init : Slot "map" "__init__" "object.__init__" :=
  .of (owner := "object") (n := "__init__") (by rw [typeLookup_type, builtinLookup_eq_fast]; kernel_rfl) (by decide +kernel) (by decide +kernel) (by decide +kernel)
    (by first | exact .inl (by decide +kernel) | exact .inr (by decide +kernel)) (by rw [isSubtype_type]; kernel_rfl)
theorem slot_map_iter : Slot "map" "__iter__" "map.__iter__" :=
  .of (owner := "map") (n := "__iter__") (by rw [typeLookup_type, builtinLookup_eq_fast]; kernel_rfl) (by decide +kernel) (by decide +kernel) (by decide +kernel)
    (by first | exact .inl (by decide +kernel) | exact .inr (by decide +kernel)) (by rw [isSubtype_type]; kernel_rfl)
theorem slot_map_next : Slot "map" "__next__" "map.__next__" :=
  .of (owner := "map") (n := "__next__") (by rw [typeLookup_type, builtinLookup_eq_fast]; kernel_rfl) (by decide +kernel) (by decide +kernel) (by decide +kernel)
    (by first | exact .inl (by decide +kernel) | exact .inr (by decide +kernel)) (by rw [isSubtype_type]; kernel_rfl)
theorem args_map_next_1 (a : Value) : argsOk "map.__next__" ⟨[a], []⟩ := by
  unfold argsOk; rw [signature?_of (id := "map.__next__") (n := ['_', '_', 't', 'x', 'e', 'n', '_', '_']) (o := ['p', 'a', 'm']) (by kernel_rfl) owner_map]; kernel_rfl
theorem args_map_iter_1 (a : Value) : argsOk "map.__iter__" ⟨[a], []⟩ := by
  unfold argsOk; rw [signature?_of (id := "map.__iter__") (n := ['_', '_', 'r', 'e', 't', 'i', '_', '_']) (o := ['p', 'a', 'm']) (by kernel_rfl) owner_map]; kernel_rfl
theorem mro_map : mroOf (.type "map") = pure [.type "map", .type "object"] := by rw [mroOf_type]; kernel_rfl
theorem lookup_map_new : typeLookup (.type "map") "__new__" = pure (some (.builtin "map.__new__")) := by rw [typeLookup_type, builtinLookup_eq_fast]; kernel_rfl
theorem sub_map : isSubtype (.type "map") (.type "map") = pure true := by rw [isSubtype_type]; kernel_rfl
theorem called_map : TypeCalled "map" "map.__new__" "object.__init__" :=
  ⟨by decide +kernel, by decide +kernel, ⟨_, _, mro_map⟩, madeBy_type mro_map lookup_map_new (by decide +kernel), by decide +kernel, sub_map, slot_map_init⟩
theorem typeCall_map_2 (a b : Value) : checkTypeCall "map" ⟨[a, b], []⟩ = pure () := by kernel_rfl
theorem newCall_map_2 (a b : Value) : checkBuiltinCall "map.__new__" ⟨[.type "map", a, b], []⟩ = pure () := by kernel_rfl
theorem entry_map_new : entryFor table "map.__new__" = some Builtin.«map.__new__» := entryFor_of_tree (by kernel_rfl)
theorem entry_map_next : entryFor table "map.__next__" = some Builtin.«map.__next__» := entryFor_of_tree (by kernel_rfl)
theorem entry_map_iter : entryFor table "map.__iter__" = some Builtin.«dict_keyiterator.__iter__» :=
  entryFor_alias (id' := "dict_keyiterator.__iter__") (by kernel_rfl) (by first | rfl | decide +kernel | (unfold String.splitOn; simp +decide [String.splitOnAux])) (by decide +kernel) (by kernel_rfl)
theorem args_init_3 (a b c : Value) : argsOk "object.__init__" ⟨[a, b, c], []⟩ := F.args_object_init_3 a b c
theorem meets_map_new (f y : Value) (x : Str) (t : Tok) (hy : y = .str x t) :
    Meets (Builtin.«map.__new__» ⟨[.type "map", f, y], []⟩) (fun _ R s => R (.ok (.ret (.ref (s.heap.objs.size + 2)))) { s with heap := ((s.heap.push { cls := .type (strIterType x), data := .fields #[.str x t, .int 0 0] }).push { cls := .type "tuple", data := .seq #[.ref s.heap.objs.size] }).push { cls := .type "map", data := .fields #[.ref (s.heap.objs.size + 1), f] } }) :=
  .of_wp fun prog w A R s h => by
    subst hy
    obtain ⟨hp, g, d, tk, os⟩ := s
    have hsub := sub_map
    wp_walk using wpAny_pyIter_strU
    refine ⟨_, rfl, ?_⟩
    simp only [Heap.size_push]
    exact h
end Mine
end
section
open PySem PySem.W PyProof.Rows PySem.Calls
set_option maxRecDepth 100000
set_option maxHeartbeats 4000000
namespace Mine
abbrev IsMap (h : Heap) (M T : Addr) (f : Value) : Prop := h.get? M = some { cls := .type "map", data := .fields #[.ref T, f] }
abbrev IsOne (h : Heap) (T I : Addr) : Prop := h.get? T = some { cls := .type "tuple", data := .seq #[.ref I] }
section
variable {prog : Program} {w : World} {A : Around} {E : Value → Shared → Prop} {s : Shared}
theorem map_next_tree {M T I : Addr} {f : Value} {Q : Value → Shared → Prop} (hM : IsMap s.heap M T f) (hT : IsOne s.heap T I) (hMI : M ≠ I)
    (h : wpAny (model prog w) A (Builtin.SmallTypes.nextOf (.ref I)) (fun v s₁ => (∃ o, s₁.heap.get? M = some o ∧ o.data = .fields #[.ref T, f]) ∧ wpAny (model prog w) A (call f [v]) Q E s₁) E s) :
    wpAny (model prog w) A (Builtin.«map.__next__» ⟨[.ref M], []⟩) (fun fin s' => ∃ v, fin = .done (.ret v) ∧ Q v s') E s := by
  show wpAny _ _ (field (.ref M) 0 >>= _) _ _ s
  refine wpAny_bind (wpAny_field hM rfl (x := .ref T) rfl ?_)
  refine wpAny_bind (wpAny_seqItems hT rfl ?_)
  dsimp only
  refine wpAny_bind ?_
  simp only [← Array.forIn_toList, List.forIn_cons, List.forIn_nil]
  refine wpAny_bind (wpAny_bind (wpAny_holding (wpAny_mono h (fun v s₁ q => ?_) fun _ _ e => e)))
  obtain ⟨⟨o, ho, hd⟩, hc⟩ := q
  refine wpAny_pure ?_
  dsimp only
  refine wpAny_pure ?_
  refine wpAny_bind (wpAny_field ho hd (x := f) rfl ?_)
  refine wpAny_bind (wpAny_holding (wpAny_mono hc (fun r s₂ hr => ?_) fun _ _ e => e))
  refine wpAny_bind (wpAny_letGo ?_)
  exact wpAny_pure ⟨_, rfl, hr⟩
theorem pyNext_map_item {M T I : Addr} {f : Value} {Q : Option Value → Shared → Prop} (hM : IsMap s.heap M T f) (hT : IsOne s.heap T I) (hMI : M ≠ I)
    (h : wpAny (model prog w) A.in1 (Builtin.SmallTypes.nextOf (.ref I)) (fun v s₁ => (∃ o, s₁.heap.get? M = some o ∧ o.data = .fields #[.ref T, f]) ∧ wpAny (model prog w) A.in1 (call f [v]) (fun r s₂ => Q (some r) s₂) (fun _ _ => False) s₁) (fun _ _ => False) s) :
    wpAny (model prog w) A (pyNext (.ref M)) Q E s := by
  have hTy : s.TypeIs (.ref M) "map" := ⟨_, hM, rfl⟩
  unfold pyNext
  refine wpAny_bind (wpAny_attempt (wpAny_callSpecial?_slot (name := Str.ofString "__next__") hTy slot_map_next (wpAny_call_entry slot_map_next hTy entry_map_next ?_ (args_map_next_1 _))))
  refine wpAny_mono (map_next_tree hM hT hMI h) (fun fin s' q => ?_) fun _ _ e => e.elim
  obtain ⟨v, rfl, hq⟩ := q
  exact ⟨v, rfl, wpAny_pure hq⟩
theorem pyNext_map_end {M T I : Addr} {f : Value} {Q : Option Value → Shared → Prop} (hM : IsMap s.heap M T f) (hT : IsOne s.heap T I) (hMI : M ≠ I)
    (h : wpAny (model prog w) A.in1 (Builtin.SmallTypes.nextOf (.ref I)) (fun _ _ => False) (fun e s₁ => ∃ a o, e = .ref a ∧ s₁.heap.get? a = some o ∧ o.cls = .type "StopIteration" ∧ Q none s₁) s) :
    wpAny (model prog w) A (pyNext (.ref M)) Q E s := by
  have hTy : s.TypeIs (.ref M) "map" := ⟨_, hM, rfl⟩
  unfold pyNext
  refine wpAny_bind (wpAny_attempt (wpAny_callSpecial?_slot (name := Str.ofString "__next__") hTy slot_map_next (wpAny_call_entry slot_map_next hTy entry_map_next ?_ (args_map_next_1 _))))
  refine wpAny_mono (map_next_tree (Q := fun _ _ => False) hM hT hMI (wpAny_mono h (fun _ _ z => z.elim) fun _ _ z => z)) (fun fin s' q => ?_) fun e s₁ q => ?_
  · obtain ⟨v, rfl, hq⟩ := q
    exact hq.elim
  · obtain ⟨a, o, rfl, ho, hc, hq⟩ := q
    exact wpAny_bind (wpAny_isInstance (T := "StopIteration") (b := true) ⟨o, ho, hc⟩ isSubtype_stop (wpAny_pure hq))
end
end Mine
end
section
open PySem PySem.W PyProof.Rows PySem.Calls
set_option maxRecDepth 100000
set_option maxHeartbeats 4000000
namespace Mine
section
variable {prog : Program} {w : World} {A : Around} {E : Value → Shared → Prop} {s : Shared} {M T I : Addr} {f : Value}
theorem pyIter_map {Q : Value → Shared → Prop} (hM : IsMap s.heap M T f) (h : Q (.ref M) s) : wpAny (model prog w) A (pyIter (.ref M)) Q E s := by
  have hT : s.TypeIs (.ref M) "map" := ⟨_, hM, rfl⟩
  refine wpAny_pyIter_slot hT slot_map_iter (wpAny_call_entry slot_map_iter hT entry_map_iter ?_ (args_map_iter_1 _))
  show wpAny _ _ (ret (.ref M)) _ _ s
  exact wpAny_pure ⟨_, rfl, "map", _, hT, slot_map_next.lookup, h⟩
/-- all of an iterator that gives truths, by an invariant of the whole state -/
theorem all_loop_inv {R : Result → Shared → Prop} (Inv : Nat → Shared → Prop) (End : Shared → Prop) (tr : Nat → Bool) (n : Nat)
    (item : ∀ i s, i < n → Inv i s → wpAny (model prog w) A.in1 (pyNext (.ref I)) (fun r s' => r = some (.bool (tr i)) ∧ Inv (i + 1) s') (fun _ _ => False) s)
    (fin : ∀ s, Inv n s → wpAny (model prog w) A.in1 (pyNext (.ref I)) (fun r s' => r = none ∧ End s') (fun _ _ => False) s) (hi : ∀ i s, Inv i s → End s) :
    ∀ (k i : Nat) (s : Shared), n - i = k → i ≤ n → Inv i s → (∀ s', End s' → R (.ok (.ret (.bool (((List.range n).drop i).all tr)))) s') → codeAny (model prog w) A (.builtin "all.loop" ⟨[.ref I], []⟩) R s := by
  intro k
  induction k with
  | zero =>
    intro i s hk hin hI hR
    obtain rfl : i = n := by omega
    refine codeAny_builtin F.entry_all_loop ?_
    rw [Around.under_plainId F.plain_all_loop _]
    show wpAny _ A.in1 (pyNext (.ref I) >>= _) _ _ s
    refine wpAny_bind (wpAny_mono (fin s hI) (fun r s' q => ?_) fun _ _ z => z.elim)
    obtain ⟨rfl, hE⟩ := q
    refine wpAny_bind (wpAny_rule (wpAny_pure ?_))
    have := hR s' hE
    rw [List.drop_of_length_le (by simp)] at this
    exact this
  | succ k ih =>
    intro i s hk hin hI hR
    have hlt : i < n := by omega
    have hd : (List.range n).drop i = i :: (List.range n).drop (i + 1) := by
      rw [List.drop_eq_getElem_cons (by simpa using hlt)]; simp
    refine codeAny_builtin F.entry_all_loop ?_
    rw [Around.under_plainId F.plain_all_loop _]
    show wpAny _ A.in1 (pyNext (.ref I) >>= _) _ _ s
    refine wpAny_bind (wpAny_mono (item i s hlt hI) (fun r s' q => ?_) fun _ _ z => z.elim)
    obtain ⟨rfl, hI'⟩ := q
    refine wpAny_bind (wpAny_holding (wpAny_truthy_bool ?_))
    refine wpAny_bind (wpAny_letGo ?_)
    cases hb : tr i with
    | true =>
      simp only [if_true]
      refine wpAny_pure ⟨plainId_quiet F.plain_all_loop _, ih (i + 1) _ (by omega) hlt hI' fun s'' hE => ?_⟩
      have := hR s'' hE
      rw [hd, List.all_cons, hb, Bool.true_and] at this
      exact this
    | false =>
      simp only [Bool.false_eq_true, if_false]
      have := hR s' (hi _ _ hI')
      rw [hd, List.all_cons, hb, Bool.false_and] at this
      first
        | exact wpAny_pure this
        | exact wpAny_bind (wpAny_rule (wpAny_pure this))
theorem call_all_inv {Q : Value → Shared → Prop} (Inv : Nat → Shared → Prop) (End : Shared → Prop) (tr : Nat → Bool) (n : Nat)
    (hit : wpAny (model prog w) A.in1 (pyIter (.ref I)) (fun it s' => it = .ref I ∧ Inv 0 s') (fun _ _ => False) s)
    (item : ∀ i s, i < n → Inv i s → wpAny (model prog w) A.in1 (pyNext (.ref I)) (fun r s' => r = some (.bool (tr i)) ∧ Inv (i + 1) s') (fun _ _ => False) s)
    (fin : ∀ s, Inv n s → wpAny (model prog w) A.in1 (pyNext (.ref I)) (fun r s' => r = none ∧ End s') (fun _ _ => False) s) (hi : ∀ i s, Inv i s → End s)
    (h : ∀ s', End s' → Q (.bool ((List.range n).all tr)) s') : wpAny (model prog w) A (call (.builtin "all") [.ref I]) Q E s := by
  refine call_function_tree F.kind_all F.plain_all F.entry_all (F.args_all1 _) ?_
  unfold Builtin.«all»
  refine wpAny_bind (m := oneArg "all" _) (wpAny_pure ?_)
  refine wpAny_bind (wpAny_mono hit (fun it s₂ h₂ => ?_) fun _ _ e => e.elim)
  obtain ⟨rfl, h0⟩ := h₂
  exact wpAny_pure ⟨plainId_quiet F.plain_all_loop _, all_loop_inv Inv End tr n item fin hi n 0 s₂ rfl (Nat.zero_le _) h0 fun s' hE => by simpa using h s' hE⟩
end
end Mine
end
section
open PySem PySem.W PyProof.Rows PySem.Calls
local macro_rules | `(tactic| k_room) => `(tactic| ((try simp only [depth_under_make, depth_under_kw, depth_in1, depth_deeper, depth_caller]); first | decide | omega | (simp only [recursionLimit] at *; omega)))
section
open PySem PySem.W PyProof.Rows PySem.Calls
set_option maxRecDepth 100000
set_option pp.maxSteps 1500
set_option maxHeartbeats 8000000
set_option rowWalk.seconds 0
namespace Mine
/-- one of the ASCII figures -/
def digQ (c : Nat) : Bool := !(Builtin.Str.occurrences (Str.ofString "0123456789") ⟨#[c]⟩ 0 (Str.length (Str.ofString "0123456789")) 1).isEmpty
section
variable {w : World} {A A₀ : Around} {E : Value → Shared → Prop} {s : Shared} {L : Addr} {h₀ base : Heap} {m mg mb : Str → Option Value} {news : List (Addr × Obj)} {p : Program} {loose : List Str} {mean : ExcName → Option Value} {Q : Value → Shared → Prop} {env : Env} {outer : List Env}
theorem digit_call (B : Below A₀ base outer h₀) (F : Fr h₀ L s.heap m) (X : (hd.heap_39 w.params).In h₀) (N : News h₀ L s.heap news) (T : Top p loose mean mg mb h₀) (hA : A.frames = some (env :: outer)) (hf : env.frame = some L) (hke : env.scope.kind = .function)
  (hroom : A.depth + 10 < recursionLimit) {c : Nat} {t : Tok} (hok : ∀ h' tk, Fr h₀ L h' m → News h₀ L h' news → Q (.bool (digQ c)) { s with heap := h', toks := tk }) :
  wpAny (model PySem.Challenge.rw_km0086_07.row.prog w) A (call (.ref 21) [.str ⟨#[c]⟩ t]) Q E s := by
  w_top off
  refine wpAny_call ?_
  refine' code_def B F X N T hA hf hke ?k6 ?k7 ?k8 ?k9 ?kB ?_ ?c2 ?c3 ?c4 ?c5
  case k6 => k_is
  case k7 => k_is
  case k8 => k_room
  case k9 => exact BindsTo.of_eq rfl
  case kB => exact locs rfl
  case c2 => exact rfl
  case c3 => exact rfl
  case c4 => exact rfl
  case c5 => decide
  intro g' L' h' FG' F' N' B' X' T'
  (try dsimp only)
  k_steps
  (with_reducible rename Fr h₀ L _ m => FE)
  (with_reducible rename News h₀ L _ _ => NE)
  exact hok _ _ FE NE
end
section
variable {prog : Program} {w : World} {A : Around} {E : Value → Shared → Prop} {s : Shared} {L : Addr} {h₀ : Heap} {m : Str → Option Value} {news : List (Addr × Obj)} {Q : Value → Shared → Prop}
abbrev mapO (T : Addr) (f : Value) : Obj := { cls := .type "map", data := .fields #[.ref T, f] }
abbrev oneO (I : Addr) : Obj := { cls := .type "tuple", data := .seq #[.ref I] }
abbrev itO (y : Str) (t : Tok) (i : Nat) : Obj := { cls := .type (strIterType y), data := .fields #[.str y t, .int i 0] }
/-- a map over a text -/
theorem map_str (F : Fr h₀ L s.heap m) (N : News h₀ L s.heap news) {f : Value} {y : Str} {t : Tok}
    (h : ∀ h' I, Fr h₀ L h' m → News h₀ L h' ((I + 2, mapO (I + 1) f) :: (I + 1, oneO I) :: (I, itO y t 0) :: news) → (∀ p ∈ news, p.1 < I) → Q (.ref (I + 2)) { s with heap := h' }) :
    wpAny (model prog w) A (call (.type "map") [f, .str y t]) Q E s := by
  refine callType_new called_map (by decide) (typeCall_map_2 _ _) (newCall_map_2 _ _) (fun obj => args_init_3 obj _ _) entry_map_new (meets_map_new f _ y t rfl) ?_
  have e1 : (s.heap.push (itO y t 0)).objs.size = s.heap.objs.size + 1 := Heap.size_push _ _
  have e2 : ((s.heap.push (itO y t 0)).push (oneO s.heap.objs.size)).objs.size = s.heap.objs.size + 2 := by rw [Heap.size_push, e1]
  have N1 := News.push F N (itO y t 0)
  have F1 := F.push (itO y t 0)
  have N2 := News.push F1 N1 (oneO s.heap.objs.size)
  have F2 := F1.push (oneO s.heap.objs.size)
  have N3 := News.push F2 N2 (mapO (s.heap.objs.size + 1) f)
  have F3 := F2.push (mapO (s.heap.objs.size + 1) f)
  rw [e1] at N2 N3
  rw [e2] at N3
  refine ⟨⟨_, (N3 _ (.head _)).1, rfl⟩, h _ _ F3 N3 fun q hq => Heap.lt_size (N q hq).1⟩
end
end Mine
end
section
open PySem PySem.W PyProof.Rows PySem.Calls PySem.Builtin PySem.Builtin.Str
set_option maxRecDepth 100000
namespace Mine
theorem slice_cp {x : PySem.Str} {l u : Option Int} {c : Nat} (h : c ∈ (Txt.slice x l u).cps.toList) : c ∈ x.cps.toList := by
  unfold Txt.slice at h
  split at h
  · exact h
  · have h' : c ∈ (strSliceIndices l u 1 x.length).filterMap (x.cps[·]?) := by simpa using h
    obtain ⟨i, _, e⟩ := List.mem_filterMap.mp h'
    have := Array.getElem?_eq_some_iff.mp e
    obtain ⟨hi, rfl⟩ := this
    exact Array.getElem_mem_toList hi
theorem slice_len (x : PySem.Str) (l u : Option Int) : (Txt.slice x l u).length ≤ x.length := by
  unfold Txt.slice
  split
  · exact Nat.le_refl _
  · show ((strSliceIndices l u 1 x.length).filterMap (x.cps[·]?)).toArray.size ≤ _
    rw [List.size_toArray]
    exact Nat.le_trans (List.length_filterMap_le _ _) (sliceIndices_le l u _)
def pairS (x : PySem.Str) (pos : Int) : PySem.Str := Txt.slice x (some pos) (some (pos + 2))
def nextS (x : PySem.Str) (pos : Int) : PySem.Str := Txt.slice x (some pos) (some (pos + 1))
def sepN (b : Bool) : Int := if b then 1 else 0
/-- one pair of a clock -/
def stepP (x : PySem.Str) (n : Nat) (pos : Int) (sep : Bool) (cs : List Int) (r : Option Int) (go : Int → Bool → List Int → Except PySem.Str (Int × List Int)) : Except PySem.Str (Int × List Int) :=
  if (x.length : Int) - pos < 2 then .error (PySem.Str.ofString "Incomplete time component")
  else match r with
    | none => .error (refusedText (pairS x pos))
    | some v =>
      if (nextS x (pos + 2)).length = 0 ∨ n = 0 then .ok (pos + 2, cs ++ [v])
      else if sep = true ∧ (nextS x (pos + 2) != PySem.Str.ofString ":") = true then .error (PySem.Str.ofString "Invalid time separator: " ++ nextS x (pos + 2))
      else go (pos + 2 + sepN sep) sep (cs ++ [v])
def sepP (x : PySem.Str) (n : Nat) (pos : Int) (sep : Bool) : Bool := if n = 2 then nextS x (pos + 2) == PySem.Str.ofString ":" else sep
/-- the pairs of a clock: how far they go, and their numbers -/
noncomputable def goP (x : PySem.Str) (n : Nat) : Int → Bool → List Int → Except PySem.Str (Int × List Int) :=
  Nat.rec (motive := fun _ => Int → Bool → List Int → Except PySem.Str (Int × List Int)) (fun pos _ cs => .ok (pos, cs)) (fun n ih pos sep cs => stepP x n pos (sepP x n pos sep) cs (PySem.intText? (pairS x pos)) ih) n
section
variable {x : PySem.Str} {n : Nat} {pos : Int} {sep : Bool} {cs : List Int}
theorem goP_succ : goP x (n + 1) pos sep cs = stepP x n pos (sepP x n pos sep) cs (PySem.intText? (pairS x pos)) (goP x n) := rfl
theorem goP_short (h : (x.length : Int) - pos < 2) : goP x (n + 1) pos sep cs = .error (PySem.Str.ofString "Incomplete time component") := by
  rw [goP_succ]
  exact if_pos h
theorem goP_bad (h : ¬ (x.length : Int) - pos < 2) (hi : PySem.intText? (pairS x pos) = none) : goP x (n + 1) pos sep cs = .error (refusedText (pairS x pos)) := by
  rw [goP_succ, hi]
  exact if_neg h
theorem goP_stop {v : Int} (h : ¬ (x.length : Int) - pos < 2) (hi : PySem.intText? (pairS x pos) = some v) (hn : (nextS x (pos + 2)).length = 0 ∨ n = 0) : goP x (n + 1) pos sep cs = .ok (pos + 2, cs ++ [v]) := by
  rw [goP_succ, hi]
  exact (if_neg h).trans (if_pos hn)
theorem goP_sep {v : Int} (h : ¬ (x.length : Int) - pos < 2) (hi : PySem.intText? (pairS x pos) = some v) (hn : ¬ ((nextS x (pos + 2)).length = 0 ∨ n = 0)) (hs : sepP x n pos sep = true) (hx : (nextS x (pos + 2) != PySem.Str.ofString ":") = true) :
    goP x (n + 1) pos sep cs = .error (PySem.Str.ofString "Invalid time separator: " ++ nextS x (pos + 2)) := by
  rw [goP_succ, hi]
  exact (if_neg h).trans ((if_neg hn).trans (if_pos ⟨hs, hx⟩))
theorem goP_on {v : Int} (h : ¬ (x.length : Int) - pos < 2) (hi : PySem.intText? (pairS x pos) = some v) (hn : ¬ ((nextS x (pos + 2)).length = 0 ∨ n = 0)) (hs : ¬ (sepP x n pos sep = true ∧ (nextS x (pos + 2) != PySem.Str.ofString ":") = true)) :
    goP x (n + 1) pos sep cs = goP x n (pos + 2 + sepN (sepP x n pos sep)) (sepP x n pos sep) (cs ++ [v]) := by
  rw [goP_succ, hi]
  exact (if_neg h).trans ((if_neg hn).trans (if_neg hs))
end
theorem indices_one {p : Int} (h0 : 0 ≤ p) (n : Nat) : (strSliceIndices (some p) (some (p + 1)) 1 n).length ≤ 1 := by
  unfold strSliceIndices sliceRange
  simp only [show (1 : Int) > 0 by decide, if_true, List.length_map, List.length_range]
  repeat' split
  all_goals (try simp only [Int.ediv_one])
  all_goals omega
theorem next_one {x : PySem.Str} {p : Int} (h0 : 0 ≤ p) (h : (nextS x p).length ≠ 0) : ∃ c, nextS x p = ⟨#[c]⟩ := by
  have hl : (nextS x p).length ≤ 1 := by
    unfold nextS Txt.slice
    split
    · rename_i e
      have e2 : (strSliceIndices (some p) (some (p + 1)) 1 x.length).length = x.length := by simpa using e
      rw [← e2]
      exact indices_one h0 _
    · show ((strSliceIndices (some p) (some (p + 1)) 1 x.length).filterMap (x.cps[·]?)).toArray.size ≤ 1
      rw [List.size_toArray]
      exact Nat.le_trans (List.length_filterMap_le _ _) (indices_one h0 _)
  generalize nextS x p = y at h hl ⊢
  obtain ⟨⟨l⟩⟩ := y
  have h1 : l.length ≠ 0 := h
  have h2 : l.length ≤ 1 := hl
  rcases l with _ | ⟨c, _ | ⟨d, r⟩⟩
  · exact absurd rfl h1
  · exact ⟨c, rfl⟩
  · simp only [List.length_cons] at h2
    omega
/-- the weight of a fraction's last figure -/
def fcP (rem : Int) : Int := if rem = 1 then 100000 else if rem = 2 then 10000 else if rem = 3 then 1000 else if rem = 4 then 100 else 10
def numP (x : PySem.Str) (c0 c1 c2 f : Int) (y : PySem.Str) (r : Option Int) : Except PySem.Str (List Int) :=
  match r with
  | none => .error (refusedText y)
  | some n => .ok [c0, c1, c2, n * f]
/-- what stands behind the pairs -/
def tailP (x : PySem.Str) (pos c0 c1 c2 : Int) : Except PySem.Str (List Int) :=
  if pos < x.length then
    if (occurrences (PySem.Str.ofString ".,") (Txt.item x pos) 0 (PySem.Str.length (PySem.Str.ofString ".,")) 1).isEmpty = true then .error (PySem.Str.ofString "Invalid microsecond component")
    else if (Txt.slice x (some (pos + 1)) none).cps.toList.all digQ = false then .error (PySem.Str.ofString "Non-digit values in fraction")
    else if 6 ≤ (x.length : Int) - (pos + 1) then numP x c0 c1 c2 1 (Txt.slice x (some (pos + 1)) (some (pos + 1 + 6))) (PySem.intText? (Txt.slice x (some (pos + 1)) (some (pos + 1 + 6))))
    else numP x c0 c1 c2 (fcP ((x.length : Int) - (pos + 1))) (Txt.slice x (some (pos + 1)) (some (pos + 1 + ((x.length : Int) - (pos + 1))))) (PySem.intText? (Txt.slice x (some (pos + 1)) (some (pos + 1 + ((x.length : Int) - (pos + 1))))))
  else .ok [c0, c1, c2, 0]
def padP (x : PySem.Str) (pos : Int) (l : List Int) : Except PySem.Str (List Int) := match l with | [c0, c1, c2] => tailP x pos c0 c1 c2 | _ => .error PySem.Str.empty
def overP (x : PySem.Str) (r : Except PySem.Str (Int × List Int)) : Except PySem.Str (List Int) := match r with | .error m => .error m | .ok (pos, cs) => padP x pos ((cs ++ [0, 0]).take 3)
/-- what a clock's text tells -/
noncomputable def parseP (x : PySem.Str) : Except PySem.Str (List Int) := overP x (goP x 3 0 false [])
section
variable {x : PySem.Str} {pos c0 c1 c2 : Int} {cs : List Int}
theorem parseP_err {msg : PySem.Str} (h : goP x 3 0 false [] = .error msg) : parseP x = .error msg := by
  unfold parseP
  rw [h]
  rfl
theorem parseP_ok (h : goP x 3 0 false [] = .ok (pos, cs)) (hc : (cs ++ [0, 0]).take 3 = [c0, c1, c2]) : parseP x = tailP x pos c0 c1 c2 := by
  unfold parseP
  rw [h]
  show padP x pos ((cs ++ [0, 0]).take 3) = _
  rw [hc]
  rfl
theorem tail_end (h : ¬ pos < (x.length : Int)) : tailP x pos c0 c1 c2 = .ok [c0, c1, c2, 0] := if_neg h
theorem tail_mark (h : pos < (x.length : Int)) (hm : (occurrences (PySem.Str.ofString ".,") (Txt.item x pos) 0 (PySem.Str.length (PySem.Str.ofString ".,")) 1).isEmpty = true) : tailP x pos c0 c1 c2 = .error (PySem.Str.ofString "Invalid microsecond component") := (if_pos h).trans (if_pos hm)
theorem tail_digit (h : pos < (x.length : Int)) (hm : (occurrences (PySem.Str.ofString ".,") (Txt.item x pos) 0 (PySem.Str.length (PySem.Str.ofString ".,")) 1).isEmpty = false) (hd : (Txt.slice x (some (pos + 1)) none).cps.toList.all digQ = false) :
    tailP x pos c0 c1 c2 = .error (PySem.Str.ofString "Non-digit values in fraction") := (if_pos h).trans ((if_neg (by rw [hm]; decide)).trans (if_pos hd))
theorem tail_six (h : pos < (x.length : Int)) (hm : (occurrences (PySem.Str.ofString ".,") (Txt.item x pos) 0 (PySem.Str.length (PySem.Str.ofString ".,")) 1).isEmpty = false) (hd : (Txt.slice x (some (pos + 1)) none).cps.toList.all digQ = true) (h6 : 6 ≤ (x.length : Int) - (pos + 1)) :
    tailP x pos c0 c1 c2 = numP x c0 c1 c2 1 (Txt.slice x (some (pos + 1)) (some (pos + 1 + 6))) (PySem.intText? (Txt.slice x (some (pos + 1)) (some (pos + 1 + 6)))) := (if_pos h).trans ((if_neg (by rw [hm]; decide)).trans ((if_neg (by rw [hd]; decide)).trans (if_pos h6)))
theorem tail_few {rem : Int} (h : pos < (x.length : Int)) (hm : (occurrences (PySem.Str.ofString ".,") (Txt.item x pos) 0 (PySem.Str.length (PySem.Str.ofString ".,")) 1).isEmpty = false) (hd : (Txt.slice x (some (pos + 1)) none).cps.toList.all digQ = true) (h6 : ¬ 6 ≤ rem) (hr : rem = (x.length : Int) - (pos + 1)) :
    tailP x pos c0 c1 c2 = numP x c0 c1 c2 (fcP rem) (Txt.slice x (some (pos + 1)) (some (pos + 1 + rem))) (PySem.intText? (Txt.slice x (some (pos + 1)) (some (pos + 1 + rem)))) := by
  subst hr
  exact (if_pos h).trans ((if_neg (by rw [hm]; decide)).trans ((if_neg (by rw [hd]; decide)).trans (if_neg h6)))
end
theorem slice_zero {x : PySem.Str} {p : Int} (h0 : 0 ≤ p) : PySem.intText? (Txt.slice x (some p) (some (p + 0))) = none := by
  have hi : (strSliceIndices (some p) (some (p + 0)) 1 x.length).length = 0 := by
    unfold strSliceIndices sliceRange
    simp only [show (1 : Int) > 0 by decide, if_true, List.length_map, List.length_range]
    repeat' split
    all_goals (try simp only [Int.ediv_one])
    all_goals omega
  have e : Txt.slice x (some p) (some (p + 0)) = ⟨#[]⟩ := by
    unfold Txt.slice
    split
    · rename_i e
      have e2 : (strSliceIndices (some p) (some (p + 0)) 1 x.length).length = x.length := by simpa using e
      obtain ⟨a⟩ := x
      have e3 : a.size = 0 := e2.symm.trans hi
      rw [Array.eq_empty_of_size_eq_zero e3]
    · rw [List.eq_nil_of_length_eq_zero hi]
      rfl
  rw [e]
  decide +kernel
end Mine
end
section
open PySem PySem.W PyProof.Rows PySem.Calls
set_option maxRecDepth 100000
set_option maxHeartbeats 4000000
namespace Mine
def trQ (y : Str) (i : Nat) : Bool := match y.cps[i]? with | some c => digQ c | none => true
theorem all_trQ (y : Str) : (List.range y.cps.size).all (trQ y) = y.cps.toList.all digQ := by
  rw [Bool.eq_iff_iff, List.all_eq_true, List.all_eq_true]
  constructor
  · intro h c hc
    obtain ⟨i, hi, rfl⟩ := List.getElem_of_mem hc
    have hi' : i < y.cps.size := by simpa using hi
    have := h i (List.mem_range.mpr hi')
    unfold trQ at this
    rw [Array.getElem?_eq_getElem hi'] at this
    simpa using this
  · intro h i hi
    have hi' := List.mem_range.mp hi
    unfold trQ
    rw [Array.getElem?_eq_getElem hi']
    exact h _ (Array.getElem_mem_toList hi')
section
variable {w : World} {A A₀ : Around} {E : Value → Shared → Prop} {s : Shared} {L : Addr} {h₀ base : Heap} {m mg mb : Str → Option Value} {news : List (Addr × Obj)} {p : Program} {loose : List Str} {mean : ExcName → Option Value} {Q : Value → Shared → Prop} {env : Env} {outer : List Env}
/-- the iterator of a text after one more step -/
theorem it_step {h h' : Heap} {I : Addr} {o : Obj} {rest : List (Addr × Obj)} (F : Fr h₀ L h m) (N : News h₀ L h ((I, o) :: rest)) (hoff : ∀ p ∈ rest, p.1 ≠ I) (hs : Heap.SameBut I h h') {o' : Obj} (ho : h'.get? I = some o') :
    Fr h₀ L h' m ∧ News h₀ L h' ((I, o') :: rest) := by
  have hI := N _ (.head _)
  have hk : ∀ b o, b ≠ I → h.get? b = some o → h'.get? b = some o := fun b o hb e => (hs.2 b hb).trans e
  refine ⟨⟨F.ns.at' fun o e => hk _ o (fun e => hI.2.1 e.symm) e, fun b o e => hk b o (fun q => ?_) (F.keep b o e), F.above⟩, fun q hq => ?_⟩
  · rw [q, hI.2.2] at e
    cases e
  · rcases List.mem_cons.mp hq with rfl | hq
    · exact ⟨ho, hI.2.1, hI.2.2⟩
    · exact ⟨hk _ _ (hoff q hq) (N q (.tail _ hq)).1, (N q (.tail _ hq)).2⟩
theorem nextOf_it {prog : Program} {I : Addr} {y : Str} {t : Tok} {i : Nat} {o : Obj} {Q : Value → Shared → Prop} (hi : s.heap.get? I = some o) (hc : o.cls = .type (strIterType y)) (hd : o.data = .fields #[.str y t, .int i 0]) {c : Nat} (hx : y.cps[i]? = some c)
    (hQ : ∀ h' o', h'.get? I = some o' → o'.cls = .type (strIterType y) → o'.data = .fields #[.str y t, .int ((i + 1 : Nat) : Int) 0] → Heap.SameBut I s.heap h' → Q (.str ⟨#[c]⟩ s.toks) { s with heap := h', toks := s.toks + 1 }) :
    wpAny (model prog w) A (Builtin.SmallTypes.nextOf (.ref I)) Q E s := by
  cases ha : y.cps.all (· < 128)
  · have e : strIterType y = "str_iterator" := by simp [strIterType, ha]
    rw [e] at hc hQ
    exact wpAny_nextOf_wide_item ⟨o, hi, hc, hd⟩ hx fun h' ⟨o', a, b, d⟩ hs => hQ h' o' a b d hs
  · have e : strIterType y = "str_ascii_iterator" := by simp [strIterType, ha]
    rw [e] at hc hQ
    exact wpAny_nextOf_ascii_item ⟨o, hi, hc, hd⟩ hx fun h' ⟨o', a, b, d⟩ hs => hQ h' o' a b d hs
theorem nextOf_end {prog : Program} {I : Addr} {y : Str} {t : Tok} {i : Nat} {o : Obj} {Q : Value → Shared → Prop} (hh : A.handled = none) (hi : s.heap.get? I = some o) (hc : o.cls = .type (strIterType y)) (hd : o.data = .fields #[.str y t, .int i 0]) (hx : y.cps[i]? = none)
    (hE : ∀ h' e, Heap.ExtBut I s.heap h' → (∃ o, h'.get? e = some o ∧ o.cls = .type "StopIteration") → E (.ref e) { s with heap := h' }) :
    wpAny (model prog w) A (Builtin.SmallTypes.nextOf (.ref I)) Q E s := by
  cases ha : y.cps.all (· < 128)
  · have e : strIterType y = "str_iterator" := by simp [strIterType, ha]
    rw [e] at hc
    exact wpAny_nextOf_wide_end hh ⟨o, hi, hc, hd⟩ hx hE
  · have e : strIterType y = "str_ascii_iterator" := by simp [strIterType, ha]
    rw [e] at hc
    exact wpAny_nextOf_ascii_end hh ⟨o, hi, hc, hd⟩ hx hE
theorem all_map (B : Below A₀ base outer h₀) (F : Fr h₀ L s.heap m) (X : (hd.heap_39 w.params).In h₀) (T : Top p loose mean mg mb h₀) (hA : A.frames = some (env :: outer)) (hf : env.frame = some L) (hke : env.scope.kind = .function)
    (hroom : A.depth + 10 < recursionLimit) (hh : A.handled = none) {y : Str} {t : Tok} {I : Addr} (N : News h₀ L s.heap ((I + 2, mapO (I + 1) (.ref 21)) :: (I + 1, oneO I) :: (I, itO y t 0) :: news)) (hoff : ∀ p ∈ news, p.1 ≠ I)
    (hok : ∀ h' tk, Fr h₀ L h' m → News h₀ L h' news → Q (.bool (y.cps.toList.all digQ)) { s with heap := h', toks := tk }) :
    wpAny (model PySem.Challenge.rw_km0086_07.row.prog w) A (call (.builtin "all") [.ref (I + 2)]) Q E s := by
  have hoff3 : ∀ q ∈ ((I + 2, mapO (I + 1) (.ref 21)) :: (I + 1, oneO I) :: news : List (Addr × Obj)), q.1 ≠ I := by
    intro q hq
    rcases List.mem_cons.mp hq with rfl | hq
    · exact Nat.ne_of_gt (Nat.lt_add_of_pos_right (by decide))
    · rcases List.mem_cons.mp hq with rfl | hq
      · exact Nat.ne_of_gt (Nat.lt_add_of_pos_right (by decide))
      · exact hoff q hq
  refine call_all_inv (fun i s' => ∃ h tk o, s' = { s with heap := h, toks := tk } ∧ Fr h₀ L h m ∧ o.cls = .type (strIterType y) ∧ o.data = .fields #[.str y t, .int (i : Int) 0] ∧ News h₀ L h ((I, o) :: (I + 2, mapO (I + 1) (.ref 21)) :: (I + 1, oneO I) :: news))
    (fun s' => ∃ h tk, s' = { s with heap := h, toks := tk } ∧ Fr h₀ L h m ∧ News h₀ L h news) (trQ y) y.cps.size ?_ ?_ ?_ ?_ ?_
  · refine pyIter_map (N _ (.head _)).1 ⟨rfl, s.heap, s.toks, itO y t 0, rfl, F, rfl, rfl, news_sub N ?_⟩
    intro q hq
    rcases List.mem_cons.mp hq with rfl | hq
    · exact .tail _ (.tail _ (.head _))
    · rcases List.mem_cons.mp hq with rfl | hq
      · exact .head _
      · rcases List.mem_cons.mp hq with rfl | hq
        · exact .tail _ (.head _)
        · exact .tail _ (.tail _ (.tail _ hq))
  · rintro i s' hi ⟨h, tk, o, rfl, F', hc, hd, N'⟩
    have hx : y.cps[i]? = some y.cps[i] := Array.getElem?_eq_getElem hi
    refine pyNext_map_item (T := I + 1) (I := I) (f := .ref 21) (N' _ (.tail _ (.head _))).1 (N' _ (.tail _ (.tail _ (.head _)))).1 (hoff3 _ (.head _)) ?_
    refine nextOf_it (N' _ (.head _)).1 hc hd hx fun h' o' a b d hs => ?_
    obtain ⟨F2, N2⟩ := it_step F' N' hoff3 hs a
    refine ⟨⟨_, (N2 _ (.tail _ (.head _))).1, rfl⟩, ?_⟩
    refine digit_call (A := A.in1.in1) (s := { s with heap := h', toks := tk + 1 }) B F2 X N2 T hA hf hke hroom fun h3 tk3 F3 N3 => ?_
    refine ⟨?_, h3, tk3, o', rfl, F3, b, d, N3⟩
    unfold trQ
    rw [hx]
  · rintro s' ⟨h, tk, o, rfl, F', hc, hd, N'⟩
    refine pyNext_map_end (T := I + 1) (I := I) (f := .ref 21) (N' _ (.tail _ (.head _))).1 (N' _ (.tail _ (.tail _ (.head _)))).1 (hoff3 _ (.head _)) ?_
    refine nextOf_end hh (N' _ (.head _)).1 hc hd (Array.getElem?_eq_none (Nat.le_refl _)) fun h' e hx he => ?_
    obtain ⟨oe, h1, h2⟩ := he
    have hI := N' _ (.head _)
    refine ⟨e, oe, rfl, h1, h2, rfl, h', tk, rfl, ⟨F'.ns.at' fun o e => hx _ o (fun e => hI.2.1 e.symm) e, fun b o e => hx b o (fun q => ?_) (F'.keep b o e), F'.above⟩, fun q hq => ?_⟩
    · rw [q, hI.2.2] at e
      cases e
    · have q2 := N' q (.tail _ (.tail _ (.tail _ hq)))
      exact ⟨hx _ _ (hoff q hq) q2.1, q2.2⟩
  · rintro i s' ⟨h, tk, o, rfl, F', hc, hd, N'⟩
    exact ⟨h, tk, rfl, F', news_sub N' fun q hq => .tail _ (.tail _ (.tail _ hq))⟩
  · rintro s' ⟨h, tk, rfl, F', N'⟩
    rw [all_trQ]
    exact hok h tk F' N'
end
end Mine
end
section
open PySem PySem.W PyProof.Rows PySem.Calls
set_option maxRecDepth 100000
namespace Mine
section
variable {M : Model} {A : Around} {E : Value → Shared → Prop} {s : Shared} {env : Env}
/-- a comprehension at stacks that bear the caller -/
theorem wpC_comprehension {e : Expr} {scope : Scope} {pos : Pos} {newAcc first : Sem Value} {g : Comprehension} {gs : List Comprehension} {cl : List (Str × Addr)} {Q : Value → Shared → Prop}
    (hcl : clausesOf e = g :: gs) (hs : ∀ x, foldedSetIterable g.iter env x = pure x) (hclos : closureFor scope env = pure cl)
    (hkind : scope.kind = .function) (hnames : ∀ x ∈ scope.names, x.2 = .local → scope.names.lookup x.1 = some .local)
    (h : wpAny M A first (fun x s₁ => wpAny M A (pyIter x) (fun it s₂ => wpAny M A newAcc (fun acc s₃ =>
      wpAny M A (newFunctionEnv scope env.globals cl [] env.qual none .none (some env)) (fun cenv s₄ =>
        codeC M A (.compStart e 0 it acc { cenv with scope := relabel scope env }) (compPost M A E none Q acc cenv.locals) s₄) E s₃) E s₂) E s₁) E s) :
    wpC M A (comprehension e scope env pos newAcc false first none) Q E s := by
  unfold comprehension
  rw [hclos, hcl]
  refine wpC_bindA (wpAny_mono h (fun x s₁ h₁ => wpC_standAt (wpC_bindA (wpAny_of_eq (hs x) (wpC_bindA (wpAny_holding (wpAny_mono h₁ (fun it s₂ h₂ => ?_) fun _ _ h' => h')))))) fun _ _ h' => h')
  refine wpC_bindA (m := newAcc) (wpAny_mono h₂ (fun acc s₃ h₃ => wpC_bindA (wpAny_pure (wpC_bindA (wpAny_mono h₃ (fun cenv s₄ h₄ => ?_) fun _ _ h' => h')))) fun _ _ h' => h')
  dsimp only
  have hv : ∀ x ∈ (scope.names.filter fun x => (x.2 == .local || x.2 == .cell) && x.1 != (".0" : Str)).reverse, x.2 = .local →
      Env.kindOf { cenv with scope := relabel scope env } x.1 = some .local := fun x hx hl => lookup_relabel_local (hnames x (List.mem_filter.mp (List.mem_reverse.mp hx)).1 hl)
  refine wpC_holding (wpC_bind (wpC_attempt (wpC_holding (wpC_run (codeC_mono h₄ fun r s' hr => ?_)))))
  cases r with
  | ok f =>
    obtain ⟨m, hn, hr⟩ := hr
    exact wpC_any (wpAny_bind (wpAny_holding (wpAny_comp_letGo (cenv := { cenv with scope := relabel scope env }) hkind _ s' m hv hn fun h' m' _ hs' => wpAny_pure (hr h' hs'))))
  | error x =>
    obtain ⟨m, hn, hr⟩ := hr
    exact wpC_any (wpAny_bind (wpAny_holding (wpAny_comp_letGo (cenv := { cenv with scope := relabel scope env }) hkind _ s' m hv hn fun h' m' _ hs' => wpAny_mono (hr h' hs' _ rfl) (fun _ _ f => f.elim) fun _ _ y => y)))
end
section
variable {prog : Program} {w : World} {A : Around} {s : Shared} {env : Env} {R : Result → Shared → Prop}
theorem codeC_compStart {elt target iter : Expr} {ifs : List Expr} {scope : Scope} {pos : Pos} {it acc : Value}
    (h0 : codeC (model prog w) A (.compLoop (.ListComp elt [⟨target, iter, ifs, 0⟩] scope pos) 0 it acc env) R s)
    (h : wpAny (model prog w) A (pyIter it) (fun it' s' => codeC (model prog w) A (.compLoop (.ListComp elt [⟨target, iter, ifs, 0⟩] scope pos) 0 it' acc env) R s')
      (notedBy (model prog w) A env fun x s' => R (.error x) s') s) :
    codeC (model prog w) A (.compStart (.ListComp elt [⟨target, iter, ifs, 0⟩] scope pos) 0 it acc env) R s := by
  refine codeC_of_tree ?_
  show wpC _ A ((compStart (.ListComp elt [⟨target, iter, ifs, 0⟩] scope pos) 0 it acc env).onRaise (fun x => do noteFrame x env; standAt theWindowsPlace)) _ _ s
  refine wpC_onRaise (wpC_mono (E := notedBy (model prog w) A env fun e s' => R (.error e) s') (wpC_any ?_) (fun _ _ q => q) fun x s' hx => wpAny_bind (wpAny_mono hx (fun _ _ e => wpAny_standAt e) fun _ _ e => e))
  unfold compStart
  show wpAny _ _ (ask >>= _) _ _ s
  refine wpAny_bind (wpAny_askSetting (wpAny_ite ?_))
  split
  · first
      | exact wpAny_bind (wpAny_pure (wpAny_pure (And.intro rfl h0)))
      | exact wpAny_pure (And.intro rfl h0)
  · first
      | exact wpAny_bind (wpAny_rule (wpAny_bind (wpAny_standAt (wpAny_bind (wpAny_mono h (fun it' s' h' => wpAny_pure (And.intro rfl h')) fun _ _ x => x)))))
      | (refine wpAny_bind (wpAny_rule ?_); show wpAny _ _ (standAt iter.pos >>= _) _ _ s; exact wpAny_bind (wpAny_standAt (wpAny_bind (wpAny_mono h (fun it' s' h' => wpAny_pure (And.intro rfl h')) fun _ _ x => x))))
theorem codeC_compLoop {elt target iter : Expr} {scope : Scope} {pos : Pos} {it acc : Value} (I : Nat → Shared → Prop)
    (turn : ∀ n s, I n s → wpAny (model prog w) A (pyNext it) (fun r s₁ => match r with
      | none => R (.ok .next) s₁
      | some v => wpAny (model prog w) A (assign target env v) (fun _ s₂ => wpC (model prog w) A (eval elt env) (fun x s₃ =>
          wpAny (model prog w) A (call (.builtin "list.append") [acc, x]) (fun _ s₄ => ∃ m, m < n ∧ I m s₄) (notedBy (model prog w) A env fun e s' => R (.error e) s') s₃)
          (notedBy (model prog w) A env fun e s' => R (.error e) s') s₂) (notedBy (model prog w) A env fun e s' => R (.error e) s') s₁) (notedBy (model prog w) A env fun e s' => R (.error e) s') s)
    (n : Nat) (h : I n s) (ht : ∀ v, letOwnedTupleGo target it v = pure () := by intro _; rfl) :
    codeC (model prog w) A (.compLoop (.ListComp elt [⟨target, iter, [], 0⟩] scope pos) 0 it acc env) R s := by
  refine codeC_loop rfl I (fun n s hI => ?_) n h
  show wpC _ A ((compTurn (.ListComp elt [⟨target, iter, [], 0⟩] scope pos) 0 it acc env).onRaise (fun x => do noteFrame x env; theTreesLotGoes x)) _ _ s
  refine wpC_onRaise (wpC_mono (E := notedBy (model prog w) A env fun e s' => R (.error e) s') ?_ (fun _ _ q => q) fun x s' hx => wpAny_bind (wpAny_mono hx (fun _ _ e => wpAny_theTreesLotGoes e) fun _ _ e => e))
  rw [compTurn_list1]
  refine wpC_standAt (wpC_bindA (wpAny_mono (turn n s hI) (fun r s₁ h₁ => ?_) fun _ _ h' => h'))
  cases r with
  | none => exact wpC_pure h₁
  | some v =>
    dsimp only
    refine wpC_bindA (wpAny_of_eq (ht v) ?_)
    exact wpC_bindA (wpAny_mono h₁ (fun _ s₂ h₂ => wpC_bind (wpC_bind (wpC_mono h₂ (fun x s₃ h₃ => wpC_bindA (wpAny_mono h₃ (fun _ s₄ h₄ => wpC_pure (wpC_pure (.inl ⟨rfl, h₄⟩))) fun _ _ h' => h')) fun _ _ h' => h'))) fun _ _ h' => h')
end
end Mine
end
section
open PySem PySem.W PyProof.Rows PySem.Calls
set_option maxRecDepth 100000
namespace Mine
open LCg
/-- what an element of a comprehension leaves, when the ground may have turned -/
inductive EltT (L : Addr) (m : Str → Option Value) (s : Shared) (I : Addr) (oI : Obj) (C : Addr) (oC : Obj) (D : Addr) (ys : List Value) (P : Value → Heap → List (Addr × Obj) → Prop) (y : Value) (s' : Shared) : Prop
  | mk (g' h' : Heap) (tk : Tok) (nw' : List (Addr × Obj)) (_ : s' = { s with heap := h', toks := tk }) (_ : Fr g' L h' m) (_ : News g' L h' ((I, oI) :: (C, oC) :: (D, lst ys) :: nw')) (_ : Off3 I C D nw') (_ : P y g' nw') : EltT L m s I oI C oC D ys P y s'
/-- the loop's invariant -/
inductive InvT (L : Addr) (m : Str → Option Value) (s₁ : Shared) (ax I C D : Addr) (items : Array Value) (J : Nat → List Value → Heap → List (Addr × Obj) → Prop) (k : Nat) (s' : Shared) : Prop
  | mk (g h' : Heap) (tk : Tok) (i : Nat) (ys : List Value) (m' : Str → Option Value) (nw : List (Addr × Obj)) (oC oI : Obj) (_ : s' = { s₁ with heap := h', toks := tk }) (_ : i ≤ items.size) (_ : k = items.size + 1 - i) (_ : h'.IsListIter I ax i) (_ : Fr g L h' m) (_ : NsObj oC m') (_ : News g L h' ((I, oI) :: (C, oC) :: (D, lst ys) :: nw)) (_ : Off3 I C D nw) (_ : J i ys g nw) : InvT L m s₁ ax I C D items J k s'
inductive SrcT (prog : Program) (w : World) (A : Around) (h₀ : Heap) (L : Addr) (m : Str → Option Value) (env : Env) (elt : Expr) (x : Str) (scope : Scope) (cl : List (Str × Addr)) (Q : Value → Shared → Prop) (xv : Value) (s₁ : Shared) : Prop
  | mk (J : Nat → List Value → Heap → List (Addr × Obj) → Prop) (ax : Addr) (items : Array Value) (n : Nat) (news : List (Addr × Obj)) (_ : xv = .ref ax) (_ : A.handled = none) (_ : Fr h₀ L s₁.heap m) (_ : News h₀ L s₁.heap news) (_ : items.size ≤ sizeLine) (_ : J 0 [] h₀ news) (_ : ∀ i ys g nw, J i ys g nw → ys.length = i ∧ (ax, W.listOf items n) ∈ nw)
    (_ : ∀ i v ys g nw I oI C oC D m₂ h tk (E' : Value → Shared → Prop), i < items.size → items[i]? = some v → J i ys g nw → oI.cls = .type "list_iterator" → NsObj oC m₂ → m₂ x = some v → Fr g L h m → News g L h ((I, oI) :: (C, oC) :: (D, lst ys) :: nw) → Off3 I C D nw → ((@Ne Nat I C) ∧ (@Ne Nat I D) ∧ (@Ne Nat C D)) →
      wpC (model prog w) A (eval elt (compEnvC scope cl C env)) (EltT L m { s₁ with heap := h, toks := tk } I oI C oC D ys (fun y g' nw' => J (i + 1) (ys ++ [y]) g' nw')) E' { s₁ with heap := h, toks := tk })
    (_ : ∀ D g h tk ys nw, Fr g L h m → News g L h ((D, lst ys) :: nw) → Off1 D nw → J items.size ys g nw → Q (.ref D) { s₁ with heap := h, toks := tk }) : SrcT prog w A h₀ L m env elt x scope cl Q xv s₁
section
variable {prog : Program} {w : World} {A : Around} {E : Value → Shared → Prop} {s : Shared} {h₀ : Heap} {L : Addr} {m : Str → Option Value} {env : Env}
/-- a list comprehension over a list of the ledger whose element is walked at stacks that bear the caller; the ground may turn -/
theorem ListComp_turnC {elt iter : Expr} {x : Str} {px : Pos} {scope : Scope} {cl : List (Str × Addr)} {pos : Pos} {Q : Value → Shared → Prop} (_ : Fr h₀ L s.heap m)
    (hclos : closureFor scope env = pure cl) (hcell : ∀ y ∈ scope.names, y.2 ≠ .cell) (hkind : scope.kind = .function)
    (hnames : ∀ y ∈ scope.names, y.2 = .local → scope.names.lookup y.1 = some .local) (hx : scope.names.lookup x = some .local) (hs : ∀ x, foldedSetIterable iter env x = pure x)
    (h : wpAny (model prog w) A (eval iter env) (SrcT prog w A h₀ L m env elt x scope cl Q) E s) :
    wpC (model prog w) A (eval (.ListComp elt [⟨.Name x px, iter, [], 0⟩] scope pos) env) Q E s := by
  rw [eval_ListComp]
  refine wpC_comprehension rfl hs hclos hkind hnames (wpAny_mono h (fun xv s₁ h₁ => ?_) fun _ _ e => e)
  obtain ⟨J, ax, items, c, news, rfl, hh, F, N, hsz, hj, ht, turn, fin⟩ := h₁
  have hm := (ht _ _ _ _ hj).2
  have hls : s₁.heap.IsList ax items := ⟨_, (N _ hm).1, rfl, c, rfl⟩
  have hlt : ax < s₁.heap.objs.size := Heap.lt_size (N _ hm).1
  refine wpAny_pyIter_list hls ?_
  generalize hH0 : s₁.heap.push { cls := .type "list_iterator", data := .fields #[.ref ax, .int 0 0] } = H0
  generalize hI : s₁.heap.objs.size = I
  have hIlt0 : H0.objs.size = I + 1 := by rw [← hH0, ← hI, Heap.size_push]
  have up : ∀ b o, s₁.heap.get? b = some o → H0.get? b = some o := fun b o e => hH0 ▸ Heap.get?_push_of_some _ e
  have gI : H0.get? I = some { cls := .type "list_iterator", data := .fields #[.ref ax, .int 0 0] } := by rw [← hH0, ← hI]; exact Heap.get?_push_size _ rfl
  have gI₀ : h₀.get? I = none := hI ▸ next_is_new F
  have hLI : L ≠ I := fun e => absurd F.ns.lt (by rw [e, ← hI]; exact Nat.lt_irrefl _)
  have F0 : Fr h₀ L H0 m := F.keeps up
  have N0 : News h₀ L H0 news := N.grown up
  have off0 : ∀ p ∈ news, p.1 ≠ I := fun p hp => hI ▸ Nat.ne_of_lt (Heap.lt_size (N p hp).1)
  have haxI : ax ≠ I := off0 _ hm
  have W := Walks.list (prog := prog) (w := w) (A := A) hh I ax haxI items
  refine wpAny_newObj_type (wpAny_newFunctionEnv hcell (by intro y hy; simp at hy) (fun h₁ hns₁ hsb₁ => ?_) hkind)
  dsimp only at hns₁ hsb₁ ⊢
  generalize hD : H0.objs.size = D at *
  generalize hH2 : H0.push { cls := .type "list", dict := none, data := .seq ([] : List Value).toArray } = H2 at hns₁ hsb₁ ⊢
  generalize hC : H2.objs.size = C at *
  have eC : C = D + 1 := by rw [← hC, ← hH2, Heap.size_push, hD]
  have hCD : C ≠ D := by rw [eC]; exact Nat.succ_ne_self _
  have hID : I ≠ D := by rw [hIlt0]; exact Nat.ne_of_lt (Nat.lt_succ_self _)
  have hIC : I ≠ C := by rw [eC, hIlt0]; exact Nat.ne_of_lt (Nat.lt_succ_of_lt (Nat.lt_succ_self _))
  have fresh : ∀ a, D ≤ a → H0.get? a = none := fun a ha => by
    cases e : H0.get? a with
    | none => rfl
    | some o' => exact absurd (Heap.lt_size e) (by rw [hD]; exact Nat.not_lt.mpr ha)
  have hDC : D ≤ C := by rw [eC]; exact Nat.le_succ _
  have below : ∀ b o, H0.get? b = some o → b ≠ C ∧ b ≠ D := fun b o e => by
    have q := Heap.lt_size e
    rw [hD] at q
    exact ⟨Nat.ne_of_lt (Nat.lt_of_lt_of_le q hDC), Nat.ne_of_lt q⟩
  have old : ∀ b o, H0.get? b = some o → h₁.get? b = some o := fun b o e => hsb₁.extBut b o (below b o e).1 (Heap.get?_push_of_some _ (by rw [← hH2]; exact Heap.get?_push_of_some _ e))
  have hacc : h₁.get? D = some (lst []) := hsb₁.extBut _ _ hCD.symm (Heap.get?_push_of_some _ (by rw [← hH2, ← hD]; exact Heap.get?_push_size _ rfl))
  have gn : ∀ a, D ≤ a → h₀.get? a = none := fun a ha => by
    cases e : h₀.get? a with
    | none => rfl
    | some o' => have := F0.keep a o' e; rw [fresh a ha] at this; cases this
  have hLlt : L < D := hD ▸ F0.ns.lt
  have hLD : L ≠ D := Nat.ne_of_lt hLlt
  have hLC : L ≠ C := Nat.ne_of_lt (Nat.lt_of_lt_of_le hLlt hDC)
  have nofr : ∀ p ∈ news, p.1 ≠ I ∧ p.1 ≠ C ∧ p.1 ≠ D := fun p hp => ⟨off0 p hp, below _ _ (N0 p hp).1⟩
  have loop : codeC (model prog w) A (.compLoop (.ListComp elt [⟨.Name x px, iter, [], 0⟩] scope pos) 0 (.ref I) (.ref D) (compEnvC scope cl C env))
        (compPost (model prog w) A E none Q (.ref D) C) { s₁ with heap := h₁, toks := s₁.toks + ([] : List (Str × Value)).length } := by
    refine codeC_compLoop
      (InvT L m s₁ ax I C D items J) ?_ (items.size + 1) ?_
    · rintro k s' ⟨g, h', tk, i, ys, m', nw, oC, oI, rfl, hi, rfl, hst', F', hn', N', off', hJ⟩
      have hm' := (ht _ _ _ _ hJ).2
      have NI := N' _ (.head _)
      have NC := N' _ (.tail _ (.head _))
      have ND := N' _ (.tail _ (.tail _ (.head _)))
      have N'' : News g L h' nw := fun p hp => N' p (.tail _ (.tail _ (.tail _ hp)))
      have off3 := off'.mem
      have hls' : h'.IsList ax items := ⟨_, (N'' _ hm').1, rfl, c, rfl⟩
      by_cases hlt : i < items.size
      · refine W.item i _ _ _ hlt ⟨hst', hls'⟩ fun v h₂ tk₂ hPv hst₂ hk₂ => ?_
        have kI : ∀ b o, b ≠ I → h'.get? b = some o → h₂.get? b = some o := fun b o q e => hk₂ b o (by simpa using q) e
        refine wpAny_assign_Name (wpAny_storeName_local (lookup_relabel_local hx) (hn'.ns (kI _ _ hIC.symm NC.1)) (fun h₃ hn₃ hs₃ => ?_) (by simp [compEnvC, relabel, hkind]))
        obtain ⟨oC', heC, hoC⟩ := ns_obj hn₃
        obtain ⟨oI', heI, hcI, hdI⟩ := hst₂.1
        have F₃ : Fr g L h₃ m := (fr_but F' hk₂ hLI NI.2.2).change hs₃ hLC.symm NC.2.2
        have N₂ : News g L h₂ ((D, lst ys) :: nw) := news_but (fun p hp => N' p (.tail _ (.tail _ hp))) hk₂ (consE hID.symm fun q hq => (off3 q hq).1)
        have N₃ : News g L h₃ ((I, oI') :: (C, oC') :: (D, lst ys) :: nw) :=
          newsE ⟨hs₃.extBut _ _ hIC heI, NI.2⟩ (newsE ⟨heC, NC.2⟩ fun p hp => ⟨hs₃.extBut _ _ (consE hCD.symm (fun q hq => (off3 q hq).2.1) p hp) (N₂ p hp).1, (N₂ p hp).2⟩)
        refine wpC_mono (turn i v ys g nw I oI' C oC' D _ h₃ _ _ hlt hPv hJ hcI hoC (by simp) F₃ N₃ off' ⟨hIC, hID, hCD⟩) (fun y s₄ h₄ => ?_) fun _ _ e => e
        obtain ⟨g₄, h₄, tk₄, nw₄, rfl, F₄, N₄, off₄, J₄⟩ := h₄
        have zI := N₄ (I, oI') (.head _)
        have zC := N₄ (C, oC') (.tail _ (.head _))
        have zD := N₄ (D, lst ys) (.tail _ (.tail _ (.head _)))
        have N₄' : News g₄ L h₄ nw₄ := fun p hp => N₄ p (.tail _ (.tail _ (.tail _ hp)))
        refine append_at (hsz := by show ys.toArray.size ≤ sizeLine; rw [List.size_toArray, (ht _ _ _ _ hJ).1]; exact Nat.le_trans hi hsz) zD.1 fun h₅ hs₅ hD₅ => ?_
        have off4 := off₄.mem
        refine ⟨items.size + 1 - (i + 1), by omega, g₄, h₅, tk₄, i + 1, ys ++ [y], _, nw₄, oC', oI', rfl, hlt, rfl, ⟨oI', hs₅.extBut _ _ hID zI.1, hcI, hdI⟩, F₄.change hs₅ hLD.symm zD.2.2, hoC, ?_, off₄, J₄⟩
        exact newsE ⟨hs₅.extBut _ _ hID zI.1, zI.2⟩ (newsE ⟨hs₅.extBut _ _ hCD zC.1, zC.2⟩ (newsE ⟨hD₅.trans (congrArg some (lst_snoc ys y)), zD.2⟩ fun q hq => ⟨hs₅.extBut _ _ (off4 q hq).2.2 (N₄' q hq).1, (N₄' q hq).2⟩))
      · obtain rfl : i = items.size := Nat.le_antisymm hi (Nat.not_lt.mp hlt)
        refine W.done _ _ _ ⟨hst', hls'⟩ fun h₂ tk₂ hk₂ => ?_
        have kI : ∀ b o, b ≠ I → h'.get? b = some o → h₂.get? b = some o := fun b o q e => hk₂ b o (by simpa using q) e
        refine ⟨m', hn'.ns (kI _ _ hIC.symm NC.1), fun h'' hs'' => fin D g h'' tk₂ ys nw ((fr_but F' hk₂ hLI NI.2.2).change hs'' hLC.symm NC.2.2) (newsE ⟨hs''.extBut _ _ hCD.symm (kI _ _ hID.symm ND.1), ND.2⟩ fun q hq => ⟨hs''.extBut _ _ (off3 q hq).2.1 (kI _ _ (off3 q hq).1 (N'' q hq).1), (N'' q hq).2⟩) off'.one hJ⟩
    · obtain ⟨oC, heC, hoC⟩ := ns_obj hns₁
      refine ⟨h₀, h₁, _, 0, [], _, news, oC, { cls := .type "list_iterator", data := .fields #[.ref ax, .int 0 0] }, rfl, Nat.zero_le _, rfl, ⟨_, old _ _ gI, rfl, rfl⟩, F0.keeps old, hoC, ?_, Off3.of nofr, hj⟩
      exact newsE ⟨old _ _ gI, hLI.symm, gI₀⟩ (newsE ⟨heC, hLC.symm, gn _ hDC⟩ (newsE ⟨hacc, hLD.symm, gn _ (Nat.le_refl _)⟩ fun q hq => ⟨old _ _ (N0 q hq).1, (N0 q hq).2⟩))
  have hst₁ : h₁.IsListIter I ax 0 ∧ h₁.IsList ax items := ⟨⟨_, old _ _ gI, rfl, rfl⟩, ⟨_, old _ _ (N0 _ hm).1, rfl, c, rfl⟩⟩
  exact codeC_compStart loop (W.self 0 _ _ _ hst₁ loop)
end
end Mine
end
section
open PySem PySem.W PyProof.Rows PySem.Calls PySem.Spec
set_option maxRecDepth 100000
namespace Mine
open LCg LCt
section
variable {prog : Program} {w : World} {A : Around} {E : Value → Shared → Prop} {s : Shared} {h₀ : Heap} {L : Addr} {m : Str → Option Value} {env : Env}
/-- a test that says no and changes nothing that the ledger speaks of -/
def TestOff (h₀ : Heap) (L : Addr) (m : Str → Option Value) (s : Shared) (led : List (Addr × Obj)) (ok : Bool) (s' : Shared) : Prop :=
  ok = false ∧ ∃ h' tk, s' = { s with heap := h', toks := tk } ∧ Fr h₀ L h' m ∧ News h₀ L h' led
theorem TestOff.intro {led led' : List (Addr × Obj)} {h' : Heap} {tk : Nat} (F : Fr h₀ L h' m) (N : News h₀ L h' led') (hs : ∀ p ∈ led, p ∈ led') : TestOff h₀ L m s led false { s with heap := h', toks := tk } :=
  ⟨rfl, h', tk, rfl, F, fun p hp => N p (hs p hp)⟩

theorem compRestT_none {ct elt : Expr} {x : Str} {scope : Scope} {cl : List (Str × Addr)} {S : List (Addr × Obj) → Prop} {P : Nat → Value → Prop} {Fin : List Value → List (Addr × Obj) → Prop} {news : List (Addr × Obj)}
    (hS : S news) (hfin : Fin [] news)
    (htest : ∀ (i : Nat) (v : Value) (I : Addr) (oI : Obj) (C : Addr) (oC : Obj) (D : Addr) (m₂ : Str → Option Value) (h : Heap) (tk : Nat) (E' : Value → Shared → Prop), P i v → NsObj oC m₂ → m₂ x = some v → Fr h₀ L h m → News h₀ L h ((I, oI) :: (C, oC) :: (D, lst []) :: news) →
      wpAny (model prog w) A (isTrue ct (compEnvC scope cl C env) (eval ct (compEnvC scope cl C env))) (TestOff h₀ L m { s with heap := h, toks := tk } ((I, oI) :: (C, oC) :: (D, lst []) :: news)) E' { s with heap := h, toks := tk }) :
    ∀ k i, CompRestT prog w A h₀ L m env ct elt x scope cl s S P Fin k i [] news
  | 0, _ => hfin
  | k + 1, i => fun v I oI C oC D m₂ h tk E' hP hC hm F N off d => by
    refine wpAny_mono (htest i v I oI C oC D m₂ h tk E' hP hC hm F N) (fun ok s' q => ?_) fun _ _ e => e
    obtain ⟨rfl, h', tk', rfl, F', N'⟩ := q
    simp only [Bool.false_eq_true, if_false]
    exact ⟨h', tk', news, rfl, F', N', off, hS, compRestT_none hS hfin htest k (i + 1)⟩

theorem ListComp_none {ct elt iter : Expr} {x : Str} {px : Pos} {scope : Scope} {cl : List (Str × Addr)} {pos : Pos} {Q : Value → Shared → Prop} {ax : Addr} {items : Array Value} {n : Nat} {news : List (Addr × Obj)}
    (F : Fr h₀ L s.heap m) (N : News h₀ L s.heap news) (hh : A.handled = none)
    (hev : ∀ Q' : Value → Shared → Prop, Q' (.ref ax) s → wpAny (model prog w) A (eval iter env) Q' E s)
    (ht : (ax, ({ cls := .type "tuple", data := .seq items n } : Obj)) ∈ news ∨ (ax, W.listOf items n) ∈ news) (hsz : items.size ≤ sizeLine)
    (hclos : closureFor scope env = pure cl) (hcell : ∀ y ∈ scope.names, y.2 ≠ .cell) (hkind : scope.kind = .function)
    (hnames : ∀ y ∈ scope.names, y.2 = .local → scope.names.lookup y.1 = some .local) (hx : scope.names.lookup x = some .local) (hs : ∀ x, foldedSetIterable iter env x = pure x)
    (htest : ∀ (i : Nat) (v : Value) (I : Addr) (oI : Obj) (C : Addr) (oC : Obj) (D : Addr) (m₂ : Str → Option Value) (h : Heap) (tk : Nat) (E' : Value → Shared → Prop), items[i]? = some v → NsObj oC m₂ → m₂ x = some v → Fr h₀ L h m → News h₀ L h ((I, oI) :: (C, oC) :: (D, lst []) :: news) →
      wpAny (model prog w) A (isTrue ct (compEnvC scope cl C env) (eval ct (compEnvC scope cl C env))) (TestOff h₀ L m { s with heap := h, toks := tk } ((I, oI) :: (C, oC) :: (D, lst []) :: news)) E' { s with heap := h, toks := tk })
    (fin : ∀ D h tk, Fr h₀ L h m → News h₀ L h ((D, lst []) :: news) → Off1 D news → Q (.ref D) { s with heap := h, toks := tk }) :
    wpAny (model prog w) A (eval (.ListComp elt [⟨.Name x px, iter, [ct], 0⟩] scope pos) env) Q E s := by
  rw [eval_ListComp]
  refine wpAny_comprehension_free (use := none) rfl hs hclos hkind hnames (hev _ ?_)
  have rr : ∀ s₂ : Shared, (∃ h, s₂ = { s with heap := h }) → ∀ D C h tk m' ys news', Fr h₀ L h m → News h₀ L h ((D, lst ys) :: news') → Off1 D news' → h.Ns C m' → h₀.get? C = none → h₀.get? D = none → C ≠ L → D ≠ L → C ≠ D → (∀ p ∈ news', p.1 ≠ C) → (fun ys nw => ys = [] ∧ nw = news) ys news' →
      compPost (model prog w) A E none Q (.ref D) C (.ok .next) { s₂ with heap := h, toks := tk } := by
    rintro _ ⟨h1, rfl⟩ D C h tk m' ys news' F' N' o1 hn hC₀ hD₀ hCL hDL hCD offC ⟨rfl, rfl⟩
    refine ⟨m', hn, fun h'' hs'' => fin D h'' tk (F'.change hs'' hCL hC₀) (fun p hp => ?_) o1⟩
    refine ⟨hs''.extBut _ _ ?_ (N' p hp).1, (N' p hp).2⟩
    rcases List.mem_cons.mp hp with rfl | hp
    · exact Ne.symm hCD
    · exact offC p hp
  rcases ht with ht | ht
  · have hl : s.heap.IsTuple ax items := ⟨_, (N _ ht).1, rfl, n, rfl⟩
    have hlt : ax < s.heap.objs.size := Heap.lt_size (N _ ht).1
    refine wpAny_pyIter_tuple hl ?_
    have up : ∀ b o, s.heap.get? b = some o → (s.heap.push { cls := .type "tuple_iterator", data := .fields #[.ref ax, .int 0 0] }).get? b = some o := fun b o e => Heap.get?_push_of_some _ e
    refine block_T (S := fun nw => (ax, ({ cls := .type "tuple", data := .seq items n } : Obj)) ∈ nw) (Fin := fun ys nw => ys = [] ∧ nw = news) (Walks.tuple hh s.heap.objs.size ax (Nat.ne_of_lt hlt) items) hsz (fun i h st => by obtain ⟨o, e, _⟩ := st.1; exact ⟨o, e⟩)
      (fun i h h' o nw st e e' k N S => ⟨by obtain ⟨o', q, r⟩ := st.1; rw [e] at q; cases q; exact ⟨o, e', r⟩, ⟨_, (N _ S).1, rfl, n, rfl⟩⟩) hcell hkind hx ⟨⟨_, Heap.get?_push_size _ rfl, rfl, rfl⟩, hl.at fun o e => up _ o e⟩ (fun b hb => ?_)
      (F.keeps up) (N.grown up) (Nat.ne_of_lt F.ns.lt) (next_is_new F) (fun p hp => Nat.ne_of_lt (Heap.lt_size (N p hp).1)) ht (compRestT_none (s := { s with heap := s.heap.push _ }) (S := fun nw => (ax, ({ cls := .type "tuple", data := .seq items n } : Obj)) ∈ nw) (P := fun i v => items[i]? = some v) (Fin := fun ys nw => ys = [] ∧ nw = news) ht (And.intro rfl rfl) (fun i v I oI C oC D m₂ h tk E' hP hC hm F' N' => htest i v I oI C oC D m₂ h tk E' hP hC hm F' N') _ _) (rr _ ⟨_, rfl⟩)
    show b < (s.heap.push _).objs.size
    rw [Heap.size_push]
    rcases List.mem_cons.mp hb with rfl | hb
    · exact Nat.lt_succ_self _
    · rw [List.mem_singleton.mp hb]; exact Nat.lt_succ_of_lt hlt
  · have hl : s.heap.IsList ax items := ⟨_, (N _ ht).1, rfl, n, rfl⟩
    have hlt : ax < s.heap.objs.size := Heap.lt_size (N _ ht).1
    refine wpAny_pyIter_list hl ?_
    have up : ∀ b o, s.heap.get? b = some o → (s.heap.push { cls := .type "list_iterator", data := .fields #[.ref ax, .int 0 0] }).get? b = some o := fun b o e => Heap.get?_push_of_some _ e
    refine block_T (S := fun nw => (ax, W.listOf items n) ∈ nw) (Fin := fun ys nw => ys = [] ∧ nw = news) (Walks.list hh s.heap.objs.size ax (Nat.ne_of_lt hlt) items) hsz (fun i h st => by obtain ⟨o, e, _⟩ := st.1; exact ⟨o, e⟩)
      (fun i h h' o nw st e e' k N S => ⟨by obtain ⟨o', q, r⟩ := st.1; rw [e] at q; cases q; exact ⟨o, e', r⟩, ⟨_, (N _ S).1, rfl, n, rfl⟩⟩) hcell hkind hx ⟨⟨_, Heap.get?_push_size _ rfl, rfl, rfl⟩, hl.at fun o e => up _ o e⟩ (fun b hb => ?_)
      (F.keeps up) (N.grown up) (Nat.ne_of_lt F.ns.lt) (next_is_new F) (fun p hp => Nat.ne_of_lt (Heap.lt_size (N p hp).1)) ht (compRestT_none (s := { s with heap := s.heap.push _ }) (S := fun nw => (ax, W.listOf items n) ∈ nw) (P := fun i v => items[i]? = some v) (Fin := fun ys nw => ys = [] ∧ nw = news) ht (And.intro rfl rfl) (fun i v I oI C oC D m₂ h tk E' hP hC hm F' N' => htest i v I oI C oC D m₂ h tk E' hP hC hm F' N') _ _) (rr _ ⟨_, rfl⟩)
    show b < (s.heap.push _).objs.size
    rw [Heap.size_push]
    rcases List.mem_cons.mp hb with rfl | hb
    · exact Nat.lt_succ_self _
    · rw [List.mem_singleton.mp hb]; exact Nat.lt_succ_of_lt hlt

/-- a test that answers b and changes nothing that the ledger speaks of -/
def TestIs (h₀ : Heap) (L : Addr) (m : Str → Option Value) (s : Shared) (led : List (Addr × Obj)) (b : Bool) (ok : Bool) (s' : Shared) : Prop :=
  ok = b ∧ ∃ h' tk, s' = { s with heap := h', toks := tk } ∧ Fr h₀ L h' m ∧ News h₀ L h' led
theorem TestIs.intro {led led' : List (Addr × Obj)} {h' : Heap} {tk : Nat} {b ok : Bool} (e : ok = b) (F : Fr h₀ L h' m) (N : News h₀ L h' led') (hs : ∀ p ∈ led, p ∈ led') : TestIs h₀ L m s led b ok { s with heap := h', toks := tk } :=
  ⟨e, h', tk, rfl, F, fun p hp => N p (hs p hp)⟩

end
end Mine
end
section
open PySem PySem.W PyProof.Rows PySem.Calls PySem.Spec
set_option maxRecDepth 100000
namespace Mine
open LCg LCt
section
variable {prog : Program} {w : World} {A : Around} {E : Value → Shared → Prop} {s : Shared} {h₀ : Heap} {L : Addr} {m : Str → Option Value} {env : Env}
theorem compRest_invS {elt : Expr} {x : Str} {scope : Scope} {cl : List (Str × Addr)} {items : Array Value} {S : List (Addr × Obj) → Prop} {Fin : List Value → List (Addr × Obj) → Prop} (J : Nat → List Value → List (Addr × Obj) → Prop)
    (hk : ∀ i ys nw, J i ys nw → S nw)
    (turn : ∀ i v ys nw I oI C oC D m₂ h tk (E' : Value → Shared → Prop), items[i]? = some v → J i ys nw → NsObj oC m₂ → m₂ x = some v → Fr h₀ L h m → News h₀ L h ((I, oI) :: (C, oC) :: (D, lst ys) :: nw) → Off3 I C D nw → ((@Ne Nat I C) ∧ (@Ne Nat I D) ∧ (@Ne Nat C D)) →
      wpAny (model prog w) A (eval elt (compEnvC scope cl C env)) (CompEnd h₀ L m { s with heap := h, toks := tk } I oI C oC D (lst ys) (fun _ => True) (fun y nw' => J (i + 1) (ys ++ [y]) nw')) E' { s with heap := h, toks := tk })
    (done : ∀ ys nw, J items.size ys nw → Fin ys nw) :
    ∀ k i ys nw, i + k = items.size → J i ys nw → CompRest prog w A h₀ L m env elt x scope cl s S (fun i v => items[i]? = some v) Fin k i ys nw
  | 0, i, ys, nw, e, hJ => done ys nw (by have : i = items.size := by omega
                                          rw [← this]; exact hJ)
  | k + 1, i, ys, nw, e, hJ => fun v I oI C oC D m₂ h tk E' hP hC hm F N off d => by
    refine wpAny_mono (turn i v ys nw I oI C oC D m₂ h tk E' hP hJ hC hm F N off d) (fun y s' q => ?_) fun _ _ e => e
    obtain ⟨h', tk', nw', rfl, F', N', off', _, r⟩ := q
    exact ⟨h', tk', nw', rfl, F', N', off', hk _ _ _ r, compRest_invS J hk turn done k (i + 1) _ nw' (by omega) r⟩

def SrcJ (prog : Program) (w : World) (A : Around) (h₀ : Heap) (L : Addr) (m : Str → Option Value) (env : Env) (elt : Expr) (x : Str) (scope : Scope) (cl : List (Str × Addr)) (Q : Value → Shared → Prop) (xv : Value) (s₁ : Shared) : Prop :=
  ∃ (J : Nat → List Value → List (Addr × Obj) → Prop) (ax : Addr) (items : Array Value) (n : Nat) (news : List (Addr × Obj)), xv = .ref ax ∧ A.handled = none ∧ Fr h₀ L s₁.heap m ∧ News h₀ L s₁.heap news ∧ items.size ≤ sizeLine ∧ J 0 [] news ∧ (∀ i ys nw, J i ys nw → (ax, W.listOf items n) ∈ nw) ∧
    (∀ i v ys nw I oI C oC D m₂ h tk (E' : Value → Shared → Prop), items[i]? = some v → J i ys nw → NsObj oC m₂ → m₂ x = some v → Fr h₀ L h m → News h₀ L h ((I, oI) :: (C, oC) :: (D, lst ys) :: nw) → Off3 I C D nw → ((@Ne Nat I C) ∧ (@Ne Nat I D) ∧ (@Ne Nat C D)) →
      wpAny (model prog w) A (eval elt (compEnvC scope cl C env)) (CompEnd h₀ L m { s₁ with heap := h, toks := tk } I oI C oC D (lst ys) (fun _ => True) (fun y nw' => J (i + 1) (ys ++ [y]) nw')) E' { s₁ with heap := h, toks := tk }) ∧
    (∀ D h tk ys nw, Fr h₀ L h m → News h₀ L h ((D, lst ys) :: nw) → Off1 D nw → J items.size ys nw → Q (.ref D) { s₁ with heap := h, toks := tk })
/-- a list comprehension over a list of the ledger, by an invariant -/
theorem ListComp_listJ {elt iter : Expr} {x : Str} {px : Pos} {scope : Scope} {cl : List (Str × Addr)} {pos : Pos} {Q : Value → Shared → Prop} (F₀ : Fr h₀ L s.heap m)
    (hclos : closureFor scope env = pure cl) (hcell : ∀ y ∈ scope.names, y.2 ≠ .cell) (hkind : scope.kind = .function)
    (hnames : ∀ y ∈ scope.names, y.2 = .local → scope.names.lookup y.1 = some .local) (hx : scope.names.lookup x = some .local) (hs : ∀ x, foldedSetIterable iter env x = pure x)
    (h : wpAny (model prog w) A (eval iter env) (SrcJ prog w A h₀ L m env elt x scope cl Q) E s) :
    wpAny (model prog w) A (eval (.ListComp elt [⟨.Name x px, iter, [], 0⟩] scope pos) env) Q E s := by
  refine ListComp_U F₀ hclos hcell hkind hnames hx (wpAny_mono h (fun xv s₁ q => ?_) fun _ _ e => e) hs
  obtain ⟨J, ax, items, n, news, rfl, hh, F, N, hsz, hj, ht, turn, fin⟩ := q
  refine CompSrc.ledger hh F N (ht _ _ _ hj) hsz fun g => ?_
  exact compRest_invS (s := { s₁ with heap := g }) J (fun i ys nw q => .inr ⟨_, ht _ _ _ q, rfl, _, rfl⟩) (fun i v ys nw I oI C oC D m₂ h tk E' a b c d e f g k => turn i v ys nw I oI C oC D m₂ h tk E' a b c d e f g k) (fun ys nw q D h tk F' N' o => fin D h tk ys nw F' N' o q) _ 0 [] news (Nat.zero_add _) hj
/-- the numbers below n -/
def upto (n : Nat) : List Int := (List.range n).map Int.ofNat
theorem upto_succ (n : Nat) : upto (n + 1) = upto n ++ [(n : Int)] := by simp [upto, List.range_succ]
theorem compRestT_range {ct : Expr} {x : Str} {pe : Pos} {scope : Scope} {cl : List (Str × Addr)} {Fin : List Value → List (Addr × Obj) → Prop} {news : List (Addr × Obj)} {n : Nat} (q : Int → Bool)
    (hfin : ∀ ys, IntsAre ys ((upto n).filter q) → Fin ys news) (hkind : scope.kind = .function) (hx : scope.names.lookup x = some .local) (hd : (x == ("__debug__" : Str)) = false)
    (htest : ∀ (i : Nat) (t : Tok) (ys : List Value) (I : Addr) (oI : Obj) (C : Addr) (oC : Obj) (D : Addr) (m₂ : Str → Option Value) (h : Heap) (tk : Nat) (E' : Value → Shared → Prop), i < n → NsObj oC m₂ → m₂ x = some (.int (i : Int) t) → Fr h₀ L h m → News h₀ L h ((I, oI) :: (C, oC) :: (D, lst ys) :: news) →
      wpAny (model prog w) A (isTrue ct (compEnvC scope cl C env) (eval ct (compEnvC scope cl C env))) (TestIs h₀ L m { s with heap := h, toks := tk } ((I, oI) :: (C, oC) :: (D, lst ys) :: news) (q i)) E' { s with heap := h, toks := tk }) :
    ∀ k i ys, i + k = n → IntsAre ys ((upto i).filter q) → CompRestT prog w A h₀ L m env ct (.Name x pe) x scope cl s (fun _ => True) (fun i v => ∃ t, v = .int (0 + (i : Int)) t) Fin k i ys news
  | 0, i, ys, hk, hi => hfin ys (by have e : i = n := by omega
                                    rw [← e]; exact hi)
  | k + 1, i, ys, hk, hi => fun v I oI C oC D m₂ h tk E' hP hC hm F N off d => by
    obtain ⟨t, rfl⟩ := hP
    have e0 : 0 + (i : Int) = i := Int.zero_add _
    rw [e0] at hm
    have rest := compRestT_range (pe := pe) q hfin hkind hx hd htest k (i + 1)
    refine wpAny_mono (htest i t _ I oI C oC D m₂ h tk E' (by omega) hC hm F N) (fun ok s' q' => ?_) fun _ _ e => e
    obtain ⟨rfl, h', tk', rfl, F', N'⟩ := q'
    cases hp : q i with
    | false =>
      simp only [Bool.false_eq_true, if_false]
      exact ⟨h', tk', news, rfl, F', N', off, trivial, rest _ (by omega) (by rw [upto_succ, List.filter_append]; simpa [hp] using hi)⟩
    | true =>
      simp only [if_true]
      refine LCgL.ld_own N' (.tail _ (.head _)) hC hm ?_ (by simp [compEnvC, relabel, hkind]) (lookup_relabel_local hx) hd
      exact ⟨h', tk', news, rfl, F', N', off, trivial, rest _ (by omega) (by rw [upto_succ, List.filter_append]; simpa [hp] using hi.append (.cons _ _ .nil))⟩
end
end Mine
end
section
open PySem PySem.W PyProof.Rows PySem.Calls PySem.Spec
set_option maxRecDepth 100000
namespace Mine
open LCg LCt
section
variable {prog : Program} {w : World} {A : Around} {E : Value → Shared → Prop} {s : Shared} {h₀ : Heap} {L : Addr} {m : Str → Option Value} {env : Env}
theorem compRestT_J {ct elt : Expr} {x : Str} {scope : Scope} {cl : List (Str × Addr)} {items : Array Value} {S : List (Addr × Obj) → Prop} {Fin : List Value → List (Addr × Obj) → Prop} (q : Nat → Bool) (J : Nat → List Value → List (Addr × Obj) → Prop)
    (hk : ∀ i ys nw, J i ys nw → S nw)
    (htest : ∀ i v ys nw I oI C oC D m₂ h tk (E' : Value → Shared → Prop), i < items.size → items[i]? = some v → J i ys nw → NsObj oC m₂ → m₂ x = some v → Fr h₀ L h m → News h₀ L h ((I, oI) :: (C, oC) :: (D, lst ys) :: nw) → Off3 I C D nw → ((@Ne Nat I C) ∧ (@Ne Nat I D) ∧ (@Ne Nat C D)) →
      wpAny (model prog w) A (isTrue ct (compEnvC scope cl C env) (eval ct (compEnvC scope cl C env))) (TestIs h₀ L m { s with heap := h, toks := tk } ((I, oI) :: (C, oC) :: (D, lst ys) :: nw) (q i)) E' { s with heap := h, toks := tk })
    (helt : ∀ i v ys nw I oI C oC D m₂ h tk (E' : Value → Shared → Prop), i < items.size → items[i]? = some v → q i = true → J i ys nw → NsObj oC m₂ → m₂ x = some v → Fr h₀ L h m → News h₀ L h ((I, oI) :: (C, oC) :: (D, lst ys) :: nw) → Off3 I C D nw → ((@Ne Nat I C) ∧ (@Ne Nat I D) ∧ (@Ne Nat C D)) →
      wpAny (model prog w) A (eval elt (compEnvC scope cl C env)) (CompEnd h₀ L m { s with heap := h, toks := tk } I oI C oC D (lst ys) (fun _ => True) (fun y nw' => J (i + 1) (ys ++ [y]) nw')) E' { s with heap := h, toks := tk })
    (hskip : ∀ i ys nw, i < items.size → q i = false → J i ys nw → J (i + 1) ys nw)
    (done : ∀ ys nw, J items.size ys nw → Fin ys nw) :
    ∀ k i ys nw, i + k = items.size → J i ys nw → CompRestT prog w A h₀ L m env ct elt x scope cl s S (fun i v => items[i]? = some v) Fin k i ys nw
  | 0, i, ys, nw, e, hJ => done ys nw (by have : i = items.size := by omega
                                          rw [← this]; exact hJ)
  | k + 1, i, ys, nw, e, hJ => fun v I oI C oC D m₂ h tk E' hP hC hm F N off d => by
    have hi : i < items.size := by omega
    refine wpAny_mono (htest i v ys nw I oI C oC D m₂ h tk E' hi hP hJ hC hm F N off d) (fun ok s' z => ?_) fun _ _ e => e
    obtain ⟨rfl, h', tk', rfl, F', N'⟩ := z
    cases hq : q i with
    | false =>
      simp only [Bool.false_eq_true, if_false]
      have hJ' := hskip i ys nw hi hq hJ
      exact ⟨h', tk', nw, rfl, F', N', off, hk _ _ _ hJ', compRestT_J q J hk htest helt hskip done k (i + 1) _ nw (by omega) hJ'⟩
    | true =>
      simp only [if_true]
      refine wpAny_mono (helt i v ys nw I oI C oC D m₂ h' tk' E' hi hP hq hJ hC hm F' N' off d) (fun y s' z => ?_) fun _ _ e => e
      obtain ⟨h2, tk2, nw2, rfl, F2, N2, off2, _, r⟩ := z
      exact ⟨h2, tk2, nw2, rfl, F2, N2, off2, hk _ _ _ r, compRestT_J q J hk htest helt hskip done k (i + 1) _ nw2 (by omega) r⟩
def SrcTJ (prog : Program) (w : World) (A : Around) (h₀ : Heap) (L : Addr) (m : Str → Option Value) (env : Env) (ct elt : Expr) (x : Str) (scope : Scope) (cl : List (Str × Addr)) (Fin : Shared → List Value → List (Addr × Obj) → Prop) (xv : Value) (s₁ : Shared) : Prop :=
  ∃ (q : Nat → Bool) (J : Nat → List Value → List (Addr × Obj) → Prop) (ax : Addr) (items : Array Value) (n : Nat) (news : List (Addr × Obj)), xv = .ref ax ∧ A.handled = none ∧ Fr h₀ L s₁.heap m ∧ News h₀ L s₁.heap news ∧ items.size ≤ sizeLine ∧ J 0 [] news ∧ (∀ i ys nw, J i ys nw → (ax, W.listOf items n) ∈ nw) ∧
    (∀ i v ys nw I oI C oC D m₂ h tk (E' : Value → Shared → Prop), i < items.size → items[i]? = some v → J i ys nw → NsObj oC m₂ → m₂ x = some v → Fr h₀ L h m → News h₀ L h ((I, oI) :: (C, oC) :: (D, lst ys) :: nw) → Off3 I C D nw → ((@Ne Nat I C) ∧ (@Ne Nat I D) ∧ (@Ne Nat C D)) →
      wpAny (model prog w) A (isTrue ct (compEnvC scope cl C env) (eval ct (compEnvC scope cl C env))) (TestIs h₀ L m { s₁ with heap := h, toks := tk } ((I, oI) :: (C, oC) :: (D, lst ys) :: nw) (q i)) E' { s₁ with heap := h, toks := tk }) ∧
    (∀ i v ys nw I oI C oC D m₂ h tk (E' : Value → Shared → Prop), i < items.size → items[i]? = some v → q i = true → J i ys nw → NsObj oC m₂ → m₂ x = some v → Fr h₀ L h m → News h₀ L h ((I, oI) :: (C, oC) :: (D, lst ys) :: nw) → Off3 I C D nw → ((@Ne Nat I C) ∧ (@Ne Nat I D) ∧ (@Ne Nat C D)) →
      wpAny (model prog w) A (eval elt (compEnvC scope cl C env)) (CompEnd h₀ L m { s₁ with heap := h, toks := tk } I oI C oC D (lst ys) (fun _ => True) (fun y nw' => J (i + 1) (ys ++ [y]) nw')) E' { s₁ with heap := h, toks := tk }) ∧
    (∀ i ys nw, i < items.size → q i = false → J i ys nw → J (i + 1) ys nw) ∧
    (∀ g ys nw, J items.size ys nw → Fin { s₁ with heap := g } ys nw)
theorem SrcTJ.src {ct elt : Expr} {x : Str} {scope : Scope} {cl : List (Str × Addr)} {Fin : Shared → List Value → List (Addr × Obj) → Prop} {xv : Value} {s₁ : Shared} (h : SrcTJ prog w A h₀ L m env ct elt x scope cl Fin xv s₁) : CompSrcT prog w A h₀ L m env ct elt x scope cl Fin xv s₁ := by
  obtain ⟨q, J, ax, items, n, news, rfl, hh, F, N, hsz, hj, ht, htest, helt, hskip, done⟩ := h
  refine CompSrcT.ledger hh F N (ht _ _ _ hj) hsz fun g => ?_
  exact compRestT_J (s := { s₁ with heap := g }) q J (fun i ys nw z => .inr ⟨_, ht _ _ _ z, rfl, _, rfl⟩) (fun i v ys nw I oI C oC D m₂ h tk E' a b c d e f g k l => htest i v ys nw I oI C oC D m₂ h tk E' a b c d e f g k l)
    (fun i v ys nw I oI C oC D m₂ h tk E' a b c d e f g k l n => helt i v ys nw I oI C oC D m₂ h tk E' a b c d e f g k l n) hskip (done g) _ 0 [] news (Nat.zero_add _) hj
/-- a name given a list comprehension with a test over a list of the ledger, by an invariant -/
theorem Assign_ListComp_TJ {ct elt iter : Expr} {x y : Str} {px py : Pos} {scope : Scope} {cl : List (Str × Addr)} {pos spos : Pos} {Q : Flow → Shared → Prop} (F₀ : Fr h₀ L s.heap m) (hLe : env.locals = L)
    (hsw : swapsWith (.ListComp elt [⟨.Name x px, iter, [ct], 0⟩] scope pos) (some (.Name y py)) spos.line env = pure true)
    (hclos : closureFor scope env = pure cl) (hcell : ∀ z ∈ scope.names, z.2 ≠ .cell) (hkind : scope.kind = .function)
    (hnames : ∀ z ∈ scope.names, z.2 = .local → scope.names.lookup z.1 = some .local) (hx : scope.names.lookup x = some .local)
    (hy : env.kindOf y = some .local) (hp : (env.scope.kind == .class || (env.scope.kind == .module && env.locals != env.globals)) = false)
    (h : wpAny (model prog w) A (eval iter env) (SrcTJ prog w A h₀ L m env ct elt x scope cl (fun s₂ => FinA h₀ L m s₂ y Q)) E s)
    (hs : ∀ x, foldedSetIterable iter env x = pure x := by intro _; rfl) :
    wpAny (model prog w) A (exec (.Assign [.Name y py] (.ListComp elt [⟨.Name x px, iter, [ct], 0⟩] scope pos) spos) env) Q E s :=
  LCt.Assign_ListComp_T F₀ hLe hsw hclos hcell hkind hnames hx hy hp (wpAny_mono h (fun _ _ z => z.src) fun _ _ e => e) hs
theorem ListComp_TJ {ct elt iter : Expr} {x : Str} {px : Pos} {scope : Scope} {cl : List (Str × Addr)} {pos : Pos} {Q : Value → Shared → Prop} (F₀ : Fr h₀ L s.heap m)
    (hclos : closureFor scope env = pure cl) (hcell : ∀ y ∈ scope.names, y.2 ≠ .cell) (hkind : scope.kind = .function)
    (hnames : ∀ y ∈ scope.names, y.2 = .local → scope.names.lookup y.1 = some .local) (hx : scope.names.lookup x = some .local)
    (h : wpAny (model prog w) A (eval iter env) (SrcTJ prog w A h₀ L m env ct elt x scope cl (fun s₂ => FinE h₀ L m s₂ Q)) E s)
    (hs : ∀ x, foldedSetIterable iter env x = pure x := by intro _; rfl) :
    wpAny (model prog w) A (eval (.ListComp elt [⟨.Name x px, iter, [ct], 0⟩] scope pos) env) Q E s :=
  LCt.ListComp_T F₀ hclos hcell hkind hnames hx (wpAny_mono h (fun _ _ z => z.src) fun _ _ e => e) hs
end
end Mine
end
section
open PySem PySem.W PyProof.Rows PySem.Calls
set_option maxRecDepth 100000
namespace Mine
/-- after a statement: a frame and a ledger of which something is known -/
def AtY (h₀ : Heap) (L : Addr) (s : Shared) (P : (Str → Option Value) → List (Addr × Obj) → Prop) (f : Flow) (s' : Shared) : Prop :=
  f = .next ∧ ∃ h' tk m' nw, s' = { s with heap := h', toks := tk } ∧ Fr h₀ L h' m' ∧ News h₀ L h' nw ∧ P m' nw
theorem cutY {M : Model} {A : Around} {t : Sem Flow} {Q : Flow → Shared → Prop} {E : Value → Shared → Prop} {s : Shared} (h₀ : Heap) (L : Addr) (P : (Str → Option Value) → List (Addr × Obj) → Prop)
    (h : ∀ E', wpAny M A t (AtY h₀ L s P) E' s) (k : ∀ h' tk m' nw, Fr h₀ L h' m' → News h₀ L h' nw → P m' nw → Q .next { s with heap := h', toks := tk }) : wpAny M A t Q E s :=
  wpAny_mono (h _) (fun f s' q => by obtain ⟨rfl, h', tk, m', nw, rfl, F, N, x⟩ := q; exact k h' tk m' nw F N x) fun _ _ e => e
end Mine
end
section
open PySem PySem.W PyProof.Rows PySem.Calls LCg
set_option maxRecDepth 100000
namespace Mine
theorem strs_snoc {vs : List Value} {ys : List PySem.Str} (h : StrsAre vs ys) (y : PySem.Str) (t : Tok) : StrsAre (vs ++ [.str y t]) (ys ++ [y]) := by
  induction h with
  | nil => exact .cons _ _ .nil
  | cons z u _ ih => exact .cons _ _ ih
/-- how far the pairs of a clock lie apart -/
def stepD (x : PySem.Str) : Int := if (Txt.slice x (some 2) (some 3) == PySem.Str.ofString ":") = true then 3 else 2
/-- is this pair begun -/
def begQ (x : PySem.Str) (i : Int) : Bool := i == 0 || decide ((x.length : Int) > (i - 1) * stepD x + 2)
/-- the sign behind the third pair -/
def markS (x : PySem.Str) : PySem.Str := Txt.slice x (some (2 * stepD x + 2)) (some (2 * stepD x + 3))
/-- what stands behind that sign -/
def figS (x : PySem.Str) : PySem.Str := Txt.slice x (some (2 * stepD x + 3)) none
theorem stepD_or (x : PySem.Str) : stepD x = 3 ∨ stepD x = 2 := by
  unfold stepD
  split
  · exact .inl rfl
  · exact .inr rfl
theorem beg_le (x : PySem.Str) : ((upto 3).filter (begQ x)).length ≤ 3 ∧ ∀ b ∈ (upto 3).filter (begQ x), 0 ≤ b ∧ b ≤ 2 := by
  refine ⟨Nat.le_trans (List.length_filter_le _ _) (by decide), fun b hb => ?_⟩
  have hb' := (List.mem_filter.mp hb).1
  have e : upto 3 = [0, 1, 2] := by decide
  rw [e] at hb'
  simp only [List.mem_cons, List.not_mem_nil, or_false] at hb'
  omega
structure Hid7 (P : Prop) : Prop where
  out : P
/-- a pair as it is read: its number, or the words of the refusal -/
def NumAt (ts : List (Addr × Obj)) (v : Value) (q : PySem.Str) : Prop :=
  (∃ n t, PySem.intText? q = some n ∧ v = .int n t) ∨ (PySem.intText? q = none ∧ ∃ l o t c, v = .ref l ∧ (l, o) ∈ ts ∧ o.cls = .type "tuple" ∧ o.data = .seq #[.str (refusedText q) t] c)
theorem NumAt.up {ts ts' : List (Addr × Obj)} {v : Value} {q : PySem.Str} (h : NumAt ts v q) (hs : ∀ p ∈ ts, p ∈ ts') : NumAt ts' v q :=
  h.imp id fun ⟨a, l, o, t, c, e, hm, r⟩ => ⟨a, l, o, t, c, e, hs _ hm, r⟩
def NumsAre (ts : List (Addr × Obj)) (vs : List Value) (ps : List PySem.Str) : Prop := vs.length = ps.length ∧ ∀ (k : Nat) (q : PySem.Str), ps[k]? = some q → ∃ v, vs[k]? = some v ∧ NumAt ts v q
theorem NumsAre.snoc {ts ts' : List (Addr × Obj)} {vs : List Value} {ps : List PySem.Str} {v : Value} {q : PySem.Str} (h : NumsAre ts vs ps) (hs : ∀ p ∈ ts, p ∈ ts') (hv : NumAt ts' v q) : NumsAre ts' (vs ++ [v]) (ps ++ [q]) := by
  refine ⟨by simp [h.1], fun k z hz => ?_⟩
  rcases Nat.lt_or_ge k ps.length with hk | hk
  · rw [List.getElem?_append_left hk] at hz
    obtain ⟨v', e, r⟩ := h.2 k z hz
    exact ⟨v', by rw [List.getElem?_append_left (by rw [h.1]; exact hk)]; exact e, r.up hs⟩
  · rw [List.getElem?_append_right hk] at hz
    rw [List.getElem?_append_right (by rw [h.1]; exact hk), h.1]
    obtain ⟨h0, e⟩ : k - ps.length = 0 ∧ z = q := by
      cases e : k - ps.length with
      | zero => rw [e] at hz; simp at hz; exact ⟨rfl, hz.symm⟩
      | succ j => rw [e] at hz; simp at hz
    rw [h0]
    exact ⟨v, rfl, e ▸ hv⟩
theorem news_ne {g h : Heap} {L a b : Addr} {oa ob : Obj} {nw : List (Addr × Obj)} (N : News g L h nw) (ha : (a, oa) ∈ nw) (hb : (b, ob) ∈ nw) (hne : oa ≠ ob) : a ≠ b := fun e => by
  subst e
  exact hne (Option.some.inj ((N _ ha).1.symm.trans (N _ hb).1))
theorem cutU {M : Model} {A : Around} {E : Value → Shared → Prop} {s : Shared} {t : Sem Unit} {Q : Unit → Shared → Prop} (h₀ : Heap) (L : Addr) (P : (Str → Option Value) → List (Addr × Obj) → Prop)
    (h : ∀ E', wpAny M A t (fun _ => AtY h₀ L s P .next) E' s) (k : ∀ h' tk m' nw, Fr h₀ L h' m' → News h₀ L h' nw → P m' nw → Q () { s with heap := h', toks := tk }) : wpAny M A t Q E s :=
  wpAny_mono (h _) (fun _ s' q => by obtain ⟨_, h', tk, m', nw, rfl, F, N, x⟩ := q; exact k h' tk m' nw F N x) fun _ _ e => e
/-- the ground of a def after some catches in what it called -/
structure Gd (fs : List Addr) (A₀ : Around) (base : Heap) (outer : List Env) (K : Frag) (p : Program) (loose : List Str) (mean : ExcName → Option Value) (mg mb : Str → Option Value) (g₀ g : Heap) : Prop where
  turn : KtsTurn fs g₀ g
  below : Below A₀ base outer g
  inK : K.In g
  top : Top p loose mean mg mb g
  dicts : KtsDicts fs g
/-- a fault: its place and its words -/
def badS (x : PySem.Str) (k : Int) : Bool := (PySem.intText? (pairS x (k * stepD x))).isNone
def faults1 (x : PySem.Str) : List (Int × PySem.Str) := (((upto 3).filter (begQ x)).filter fun k => decide (((pairS x (k * stepD x)).length : Int) < 2)).map fun k => (k * stepD x, PySem.Str.ofString "Incomplete time component")
def faults2 (x : PySem.Str) : List (Int × PySem.Str) := (((upto 3).filter (begQ x)).filter fun k => decide (((pairS x (k * stepD x)).length : Int) = 2) && badS x k).map fun k => (k * stepD x, refusedText (pairS x (k * stepD x)))
def faults3 (x : PySem.Str) : List (Int × PySem.Str) := if stepD x = 3 ∧ 5 < (x.length : Int) ∧ (Txt.item x 5 == PySem.Str.ofString ":") = false then [(5, PySem.Str.ofString "Invalid time separator: " ++ Txt.item x 5)] else []
def markQ (x : PySem.Str) : Bool := [PySem.Str.ofString "", PySem.Str.ofString ".", PySem.Str.ofString ","].any fun y => y == markS x
def faults4 (x : PySem.Str) : List (Int × PySem.Str) :=
  if markQ x = false then [(2 * stepD x + 2, PySem.Str.ofString "Invalid microsecond component")]
  else if (figS x).cps.toList.all digQ = false then [(2 * stepD x + 3, PySem.Str.ofString "Non-digit values in fraction")]
  else if (markS x == PySem.Str.ofString "") = false ∧ (figS x == PySem.Str.ofString "") = true then [(2 * stepD x + 3, refusedText (figS x))]
  else []
def faultsD (x : PySem.Str) : List (Int × PySem.Str) := faults1 x ++ faults2 x ++ faults3 x ++ faults4 x
/-- what _law_due tells of a text -/
def DueIs (x : PySem.Str) (o : Obj) : Prop :=
  (faultsD x = [] ∧ ∃ (a b d f : Int) (t1 t2 t3 t4 : Tok) (c : Nat), o = W.listOf #[.int a t1, .int b t2, .int d t3, .int f t4] c ∧
    ((((upto 3).filter (begQ x)).map fun k => (PySem.intText? (pairS x (k * stepD x))).getD 0) ++ [0, 0]).take 3 = [a, b, d] ∧ PySem.intText? (Txt.slice (figS x ++ PySem.Str.ofString "000000") none (some 6)) = some f) ∨
  (∃ k msg, (k, msg) ∈ faultsD x ∧ (∀ q ∈ faultsD x, k ≤ q.1) ∧ o.cls = .type "tuple" ∧ ∃ t c, o.data = .seq #[.str msg t] c)
/-- the end of _law_due -/
def DueEnd (x : PySem.Str) (fs : List Addr) (A₀ : Around) (base : Heap) (outer : List Env) (K : Frag) (p : Program) (loose : List Str) (mean : ExcName → Option Value) (mg mb : Str → Option Value) (g' : Heap) (L' : Addr) (news : List (Addr × Obj)) (s : Shared) (fl : Flow) (s' : Shared) : Prop :=
  ∃ g h tk m' l o, fl = .ret (.ref l) ∧ s' = { s with heap := h, toks := tk } ∧ Gd fs A₀ base outer K p loose mean mg mb g' g ∧ DueIs x o ∧ Fr g L' h m' ∧ News g L' h ((l, o) :: news)
/-- how many pairs are begun -/
def nB (x : PySem.Str) : Nat := if (x.length : Int) > stepD x + 2 then 3 else if (x.length : Int) > 2 then 2 else 1
theorem beg_upto (x : PySem.Str) : (upto 3).filter (begQ x) = upto (nB x) := by
  have e : upto 3 = [0, 1, 2] := by decide
  have h0 : begQ x 0 = true := rfl
  have h1 : begQ x 1 = decide ((x.length : Int) > 2) := by
    unfold begQ
    rw [show (((1 : Int) == 0) = false) from rfl, Bool.false_or]
    exact decide_eq_decide.mpr (by omega)
  have h2 : begQ x 2 = decide ((x.length : Int) > stepD x + 2) := by
    unfold begQ
    rw [show (((2 : Int) == 0) = false) from rfl, Bool.false_or]
    exact decide_eq_decide.mpr (by omega)
  have hs := stepD_or x
  rw [e, List.filter_cons, if_pos h0, List.filter_cons, h1, List.filter_cons, h2, List.filter_nil]
  unfold nB
  by_cases ha : (x.length : Int) > stepD x + 2
  · rw [if_pos ha, decide_eq_true ha, decide_eq_true (show (x.length : Int) > 2 by omega)]
    rfl
  · rw [if_neg ha, decide_eq_false ha]
    by_cases hb : (x.length : Int) > 2
    · rw [if_pos hb, decide_eq_true hb]
      rfl
    · rw [if_neg hb, decide_eq_false hb]
      rfl
theorem led_two {α : Type} {z a b : α} {l k : List α} (h : z ∈ l ++ (a :: b :: k)) : z ∈ a :: b :: (l ++ k) := by
  simp only [List.mem_append, List.mem_cons] at *
  rcases h with h | h | h | h <;> simp [h]
theorem led_one {α : Type} {z a : α} {l k : List α} (h : z ∈ l ++ (a :: k)) : z ∈ a :: (l ++ k) := by
  simp only [List.mem_append, List.mem_cons] at *
  rcases h with h | h | h <;> simp [h]
theorem elt_two {g h' : Heap} {L I C D a1 a2 : Addr} {oI oC oD o1 o2 : Obj} {m : Str → Option Value} {kn us rest : List (Addr × Obj)} {s₁ : Shared} {tk : Nat} {J : Value → List (Addr × Obj) → Prop} {y : Value} (F : Fr g L h' m) (N : News g L h' ((a2, o2) :: (a1, o1) :: (I, oI) :: (C, oC) :: (D, oD) :: (kn ++ (us ++ rest))))
    (off : Off3 I C D (kn ++ (us ++ rest))) (n1 : (@Ne Nat a1 I) ∧ (@Ne Nat a1 C) ∧ (@Ne Nat a1 D)) (n2 : (@Ne Nat a2 I) ∧ (@Ne Nat a2 C) ∧ (@Ne Nat a2 D)) (j : J y (kn ++ ((a2, o2) :: (a1, o1) :: us ++ rest))) :
    CompEnd g L m s₁ I oI C oC D oD (fun _ => True) J y { s₁ with heap := h', toks := tk } := by
  refine ⟨_, _, _, rfl, F, news_sub N fun z hz => ?_, Off3.of fun z hz => ?_, trivial, j⟩
  · exact led_two (l := (I, oI) :: (C, oC) :: (D, oD) :: kn) (k := us ++ rest) hz
  · rcases List.mem_cons.mp (led_two (l := kn) (k := us ++ rest) hz) with rfl | hz
    · exact n2
    · rcases List.mem_cons.mp hz with rfl | hz
      · exact n1
      · exact off.mem z hz
theorem elt_one {g h' : Heap} {L I C D a1 : Addr} {oI oC oD o1 : Obj} {m : Str → Option Value} {kn us rest : List (Addr × Obj)} {s₁ : Shared} {tk : Nat} {J : Value → List (Addr × Obj) → Prop} {y : Value} (F : Fr g L h' m) (N : News g L h' ((a1, o1) :: (I, oI) :: (C, oC) :: (D, oD) :: (kn ++ (us ++ rest))))
    (off : Off3 I C D (kn ++ (us ++ rest))) (n1 : (@Ne Nat a1 I) ∧ (@Ne Nat a1 C) ∧ (@Ne Nat a1 D)) (j : J y (kn ++ ((a1, o1) :: us ++ rest))) :
    CompEnd g L m s₁ I oI C oC D oD (fun _ => True) J y { s₁ with heap := h', toks := tk } := by
  refine ⟨_, _, _, rfl, F, news_sub N fun z hz => ?_, Off3.of fun z hz => ?_, trivial, j⟩
  · exact led_one (l := (I, oI) :: (C, oC) :: (D, oD) :: kn) (k := us ++ rest) hz
  · rcases List.mem_cons.mp (led_one (l := kn) (k := us ++ rest) hz) with rfl | hz
    · exact n1
    · exact off.mem z hz
theorem off1_mem {D : Addr} : ∀ {l : List (Addr × Obj)}, LCg.Off1 D l → ∀ p ∈ l, p.1 ≠ D
  | [], _, _, h => nomatch h
  | _ :: _, x, p, h => by
    rcases List.mem_cons.mp h with rfl | h
    · exact x.1
    · exact off1_mem x.2 p h
theorem wpC_execs_one {M : Model} {A : Around} {E : Value → Shared → Prop} {s : Shared} {st : Stmt} {env : Env} {Q : Flow → Shared → Prop} (h : wpC M A (exec st env) Q E s) : wpC M A (execs [st] env) Q E s :=
  wpC_execs_cons (wpC_mono h (fun f s' q => by cases f <;> first | exact wpC_execs_nil q | exact q) fun _ _ e => e)
/-- after a statement: a ground that may have turned, a frame and a ledger of which something is known -/
def AtG (L : Addr) (s : Shared) (G : Heap → Prop) (P : (Str → Option Value) → List (Addr × Obj) → Prop) (f : Flow) (s' : Shared) : Prop :=
  f = .next ∧ ∃ g h' tk m' nw, s' = { s with heap := h', toks := tk } ∧ G g ∧ Fr g L h' m' ∧ News g L h' nw ∧ P m' nw
theorem AtY.atG {g : Heap} {L : Addr} {s : Shared} {G : Heap → Prop} {P : (Str → Option Value) → List (Addr × Obj) → Prop} {f : Flow} {s' : Shared} (h : AtY g L s P f s') (hG : G g) : AtG L s G P f s' :=
  let ⟨a, h', tk, m', nw, b, c, d, e⟩ := h
  ⟨a, g, h', tk, m', nw, b, hG, c, d, e⟩
theorem cutG {M : Model} {A : Around} {t : Sem Flow} {Q : Flow → Shared → Prop} {E : Value → Shared → Prop} {s : Shared} (L : Addr) (G : Heap → Prop) (P : (Str → Option Value) → List (Addr × Obj) → Prop)
    (h : ∀ E', wpC M A t (AtG L s G P) E' s) (k : ∀ g h' tk m' nw, G g → Fr g L h' m' → News g L h' nw → P m' nw → Q .next { s with heap := h', toks := tk }) : wpC M A t Q E s :=
  wpC_mono (h _) (fun f s' q => by obtain ⟨rfl, g, h', tk, m', nw, rfl, G, F, N, x⟩ := q; exact k g h' tk m' nw G F N x) fun _ _ e => e
theorem led_drop {α : Type} {z a b : α} (pre : List α) {l : List α} (h : z ∈ a :: b :: l) : z ∈ a :: b :: (pre ++ l) := by
  simp only [List.mem_append, List.mem_cons] at *
  rcases h with h | h | h <;> simp [h]
theorem pushA {M : Model} {A : Around} {id : String} {lf : Addr} {o : Obj} {Q : Value → Shared → Prop} {E : Value → Shared → Prop} {g h : Heap} {L : Addr} {m : Str → Option Value} {nw : List (Addr × Obj)} {gens} {drawn} {toks} {os} (F : Fr g L h m) (N : News g L h nw)
    (k : ∀ D h', (∀ p ∈ nw, @LT.lt Nat _ p.1 D) → Fr g L h' m → News g L h' ((D, o) :: nw) → wpAny M A (call (.builtin id) [.ref lf, .ref D]) Q E ⟨h', gens, drawn, toks, os⟩) (hf : o.isFreed = false := by rfl) :
    wpAny M A (call (.builtin id) [.ref lf, .ref h.objs.size]) Q E ⟨h.push o, gens, drawn, toks, os⟩ :=
  k _ _ (fun p hp => Heap.lt_size (N p hp).1) (F.push o) (News.push F N o hf)
theorem news_keep {g h : Heap} {L a : Addr} {oa : Obj} {nw news : List (Addr × Obj)} (N : News g L h ((a, oa) :: nw)) (hs : ∀ p ∈ news, p ∈ (a, oa) :: nw) : News g L h ((a, oa) :: news) := fun p hp => by
  rcases List.mem_cons.mp hp with rfl | hp
  · exact N _ (.head _)
  · exact N p (hs p hp)
/-- the numbers' list of a text without a fault -/
def LeftD (g : Heap) (L : Addr) (m : Str → Option Value) (bl : List (Addr × Obj)) (x : PySem.Str) (s : Shared) (v : Value) (s' : Shared) : Prop :=
  ∃ h tk D a b d t1 t2 t3, v = .ref D ∧ s' = { s with heap := h, toks := tk } ∧ Fr g L h m ∧ News g L h ((D, W.listOf #[.int a t1, .int b t2, .int d t3] 0) :: bl) ∧
    ((((upto 3).filter (begQ x)).map fun k => (PySem.intText? (pairS x (k * stepD x))).getD 0) ++ [0, 0]).take 3 = [a, b, d]
theorem nB_le (x : PySem.Str) : nB x ≤ 3 := by
  unfold nB
  split
  · exact Nat.le_refl _
  · split <;> decide
theorem upto_at {n i : Nat} (h : i < n) : (upto n)[i]? = some (i : Int) := by
  unfold upto
  rw [List.getElem?_map, List.getElem?_range h]
  rfl
theorem upto_len (n : Nat) : (upto n).length = n := by simp [upto]
theorem upto_take_succ {n i : Nat} (h : i < n) : (upto n).take (i + 1) = (upto n).take i ++ [(i : Int)] := by
  rw [List.take_add_one, upto_at h]
  rfl
theorem upto_get {n i : Nat} {b : Int} (h : (upto n)[i]? = some b) : b = i ∧ i < n := by
  unfold upto at h
  rw [List.getElem?_map] at h
  obtain ⟨k, hk, rfl⟩ := Option.map_eq_some_iff.mp h
  obtain ⟨hi, rfl⟩ := List.getElem?_eq_some_iff.mp hk
  rw [List.length_range] at hi
  exact ⟨by simp, hi⟩
def FaultAt (nw : List (Addr × Obj)) (v : Value) (f : Int × PySem.Str) : Prop :=
  ∃ a b o1 o2 t1 t2 c1 c2, v = .ref a ∧ (a, o1) ∈ nw ∧ (b, o2) ∈ nw ∧ o1.cls = .type "tuple" ∧ o1.data = .seq #[.int f.1 t1, .ref b] c1 ∧ o2.cls = .type "tuple" ∧ o2.data = .seq #[.str f.2 t2] c2
def FaultsAre (nw : List (Addr × Obj)) (vs : List Value) (fs : List (Int × PySem.Str)) : Prop := vs.length = fs.length ∧ ∀ (k : Nat) (f : Int × PySem.Str), fs[k]? = some f → ∃ v, vs[k]? = some v ∧ FaultAt nw v f
theorem FaultAt.up {nw nw' : List (Addr × Obj)} {v : Value} {f : Int × PySem.Str} (h : FaultAt nw v f) (hs : ∀ p ∈ nw, p ∈ nw') : FaultAt nw' v f := by
  obtain ⟨a, b, o1, o2, t1, t2, c1, c2, e, m1, m2, r⟩ := h
  exact ⟨a, b, o1, o2, t1, t2, c1, c2, e, hs _ m1, hs _ m2, r⟩
theorem FaultsAre.nil {nw : List (Addr × Obj)} : FaultsAre nw [] [] := ⟨rfl, fun k f h => by simp at h⟩
theorem FaultsAre.append {nw : List (Addr × Obj)} {vs vs' : List Value} {fs fs' : List (Int × PySem.Str)} (h : FaultsAre nw vs fs) (h' : FaultsAre nw vs' fs') : FaultsAre nw (vs ++ vs') (fs ++ fs') := by
  refine ⟨by simp [h.1, h'.1], fun k z hz => ?_⟩
  rcases Nat.lt_or_ge k fs.length with hk | hk
  · rw [List.getElem?_append_left hk] at hz
    rw [List.getElem?_append_left (by rw [h.1]; exact hk)]
    exact h.2 k z hz
  · rw [List.getElem?_append_right hk] at hz
    rw [List.getElem?_append_right (by rw [h.1]; exact hk), h.1]
    exact h'.2 _ z hz
theorem FaultsAre.up {nw nw' : List (Addr × Obj)} {vs : List Value} {fs : List (Int × PySem.Str)} (h : FaultsAre nw vs fs) (hs : ∀ p ∈ nw, p ∈ nw') : FaultsAre nw' vs fs :=
  ⟨h.1, fun k f e => let ⟨v, a, b⟩ := h.2 k f e; ⟨v, a, b.up hs⟩⟩
theorem FaultsAre.one {nw : List (Addr × Obj)} {v : Value} {f : Int × PySem.Str} (h : FaultAt nw v f) : FaultsAre nw [v] [f] :=
  ⟨rfl, fun k z e => by
    cases k with
    | zero => simp at e; subst e; exact ⟨v, rfl, h⟩
    | succ k => simp at e⟩
theorem FaultsAre.snoc {nw nw' : List (Addr × Obj)} {vs : List Value} {fs : List (Int × PySem.Str)} {v : Value} {f : Int × PySem.Str} (h : FaultsAre nw vs fs) (hs : ∀ p ∈ nw, p ∈ nw') (h' : FaultAt nw' v f) : FaultsAre nw' (vs ++ [v]) (fs ++ [f]) := (h.up hs).append (.one h')
/-- the made texts of refusals: tuples -/
def TupsAre (ts : List (Addr × Obj)) : Prop := ∀ q ∈ ts, q.2.cls = .type "tuple" ∧ ∃ its c, q.2.data = .seq its c
/-- the faults, half-way -/
def FsP (x : PySem.Str) (tm tf : Tok) (lb lf : Addr) (kn rest : List (Addr × Obj)) (fs : List (Int × PySem.Str)) (n : Nat) (m' : Str → Option Value) (nw : List (Addr × Obj)) : Prop :=
  m' "begun" = some (.ref lb) ∧ m' "mark" = some (.str (markS x) tm) ∧ m' "figures" = some (.str (figS x) tf) ∧ m' "faults" = some (.ref lf) ∧
    ∃ fv c us, nw = (lf, W.listOf fv.toArray c) :: (kn ++ (us ++ rest)) ∧ TupsAre us ∧ FaultsAre (us ++ rest) fv fs ∧ fv.length ≤ n ∧ ∀ q ∈ kn ++ (us ++ rest), q.1 ≠ lf
section
variable {g h' : Heap} {L : Addr} {s : Shared} {x : PySem.Str} {tm tf : Tok} {lb lf : Addr} {kn rest us : List (Addr × Obj)} {fs : List (Int × PySem.Str)} {fv : List Value} {n tk c : Nat} {m' m₀ : Str → Option Value}
/-- the frame of _law_due while it gathers its faults -/
def mapD (x : PySem.Str) (tm tf : Tok) (lb lf : Addr) (m₀ : Str → Option Value) : Str → Option Value := fun z => if z = "faults" then some (.ref lf) else if z = "begun" then some (.ref lb) else if z = "mark" then some (.str (markS x) tm) else if z = "figures" then some (.str (figS x) tf) else m₀ z
theorem fsP_same {fs' : List (Int × PySem.Str)} (F : Fr g L h' m') (N : News g L h' ((lf, W.listOf fv.toArray c) :: (kn ++ (us ++ rest)))) (hm : m' = mapD x tm tf lb lf m₀) (hus : TupsAre us) (hfv : FaultsAre (us ++ rest) fv fs) (hn : fv.length ≤ n) (hlf : ∀ q ∈ kn ++ (us ++ rest), q.1 ≠ lf) (e : fs = fs') :
    AtY g L s (FsP x tm tf lb lf kn rest fs' (n + 1)) .next { s with heap := h', toks := tk } := by
  subst hm e
  exact ⟨rfl, _, _, _, _, rfl, F, N, (if_neg (by decide)).trans (if_pos rfl), (if_neg (by decide)).trans ((if_neg (by decide)).trans (if_pos rfl)), (if_neg (by decide)).trans ((if_neg (by decide)).trans ((if_neg (by decide)).trans (if_pos rfl))), if_pos rfl, fv, c, us, rfl, hus, hfv, Nat.le_succ_of_le hn, hlf⟩
theorem fsP_add {a b : Addr} {o1 o2 : Obj} {k : Int} {msg : PySem.Str} {t1 t2 : Tok} {c1 c2 : Nat} {fs' : List (Int × PySem.Str)} (F : Fr g L h' m') (N : News g L h' ((a, o1) :: (b, o2) :: (lf, W.listOf (fv.toArray.push (.ref a)) c) :: (kn ++ (us ++ rest)))) (hm : m' = mapD x tm tf lb lf m₀)
    (h1 : o1.cls = .type "tuple") (h1' : o1.data = .seq #[.int k t1, .ref b] c1) (h2 : o2.cls = .type "tuple") (h2' : o2.data = .seq #[.str msg t2] c2)
    (hus : TupsAre us) (hfv : FaultsAre (us ++ rest) fv fs) (hn : fv.length ≤ n) (hlf : ∀ q ∈ kn ++ (us ++ rest), q.1 ≠ lf) (e : fs ++ [(k, msg)] = fs') :
    AtY g L s (FsP x tm tf lb lf kn rest fs' (n + 1)) .next { s with heap := h', toks := tk } := by
  subst hm e
  have nl : ∀ o : Obj, o.cls = .type "tuple" → o ≠ W.listOf (fv.toArray.push (.ref a)) c := fun o h e => by
    rw [e] at h
    revert h
    show Value.type "list" = Value.type "tuple" → False
    decide
  refine ⟨rfl, _, _, _, (lf, W.listOf (fv ++ [Value.ref a]).toArray c) :: (kn ++ ((a, o1) :: (b, o2) :: us ++ rest)), rfl, F, news_sub N fun z hz => ?_, (if_neg (by decide)).trans (if_pos rfl), (if_neg (by decide)).trans ((if_neg (by decide)).trans (if_pos rfl)), (if_neg (by decide)).trans ((if_neg (by decide)).trans ((if_neg (by decide)).trans (if_pos rfl))), if_pos rfl, fv ++ [Value.ref a], c, (a, o1) :: (b, o2) :: us, rfl, ?_, ?_, ?_, ?_⟩
  · have e : (fv ++ [Value.ref a]).toArray = fv.toArray.push (.ref a) := (List.push_toArray ..).symm
    rw [e] at hz
    exact led_two (l := (lf, W.listOf (fv.toArray.push (.ref a)) c) :: kn) (k := us ++ rest) hz
  · intro z hz
    rcases List.mem_cons.mp hz with rfl | hz
    · exact ⟨h1, _, _, h1'⟩
    · rcases List.mem_cons.mp hz with rfl | hz
      · exact ⟨h2, _, _, h2'⟩
      · exact hus z hz
  · exact hfv.snoc (fun _ h => .tail _ (.tail _ h)) ⟨a, b, o1, o2, t1, t2, c1, c2, rfl, .head _, .tail _ (.head _), h1, h1', h2, h2'⟩
  · rw [List.length_append, List.length_singleton]
    omega
  · intro z hz
    rcases List.mem_cons.mp (led_two (l := kn) (k := us ++ rest) hz) with rfl | hz
    · exact news_ne N (.head _) (.tail _ (.tail _ (.head _))) (nl _ h1)
    · rcases List.mem_cons.mp hz with rfl | hz
      · exact news_ne N (.tail _ (.head _)) (.tail _ (.tail _ (.head _))) (nl _ h2)
      · exact hlf z hz
end
theorem argBest_min (f : Nat → Int) : ∀ n j, j ≤ n → f (argBest (fun i j => decide (f i < f j)) n) ≤ f j
  | 0, j, h => by
    obtain rfl : j = 0 := Nat.le_zero.mp h
    exact Int.le_refl _
  | n + 1, j, h => by
    have ih := argBest_min f n
    show f (if decide (f (n + 1) < f (argBest (fun i j => decide (f i < f j)) n)) = true then n + 1 else argBest (fun i j => decide (f i < f j)) n) ≤ f j
    by_cases hc : f (n + 1) < f (argBest (fun i j => decide (f i < f j)) n)
    · rw [if_pos (decide_eq_true hc)]
      rcases Nat.lt_or_ge j (n + 1) with hj | hj
      · have := ih j (Nat.le_of_lt_succ hj)
        omega
      · obtain rfl : j = n + 1 := Nat.le_antisymm h hj
        exact Int.le_refl _
    · rw [if_neg (by rw [decide_eq_false hc]; decide)]
      rcases Nat.lt_or_ge j (n + 1) with hj | hj
      · exact ih j (Nat.le_of_lt_succ hj)
      · obtain rfl : j = n + 1 := Nat.le_antisymm h hj
        omega
def placeD (x : PySem.Str) (i : Nat) : Int := match (faultsD x)[i]? with | some q => q.1 | none => 0
theorem placeD_at {x : PySem.Str} {i : Nat} {q : Int × PySem.Str} (h : (faultsD x)[i]? = some q) : placeD x i = q.1 := by
  unfold placeD
  rw [h]
theorem upto3 : upto 3 = [0, 1, 2] := by decide
theorem beg_in {x : PySem.Str} {k : Int} (h : k ∈ (upto 3).filter (begQ x)) : 0 ≤ k ∧ k ≤ 2 := (beg_le x).2 k h
theorem filter_pair {l : List Int} {p q : Int → Bool} {f g : Int → Int × PySem.Str} {c : Int} (hc : 0 < c) (hf : ∀ k, (f k).1 = k * c) (hg : ∀ k, (g k).1 = k * c) (hl : l.Pairwise (· < ·)) (hpq : ∀ k, p k = true → q k = false) :
    ((l.filter p).map f ++ (l.filter q).map g).Pairwise (fun a b => a.1 ≠ b.1) := by
  have mono : ∀ a b : Int, a < b → a * c ≠ b * c := fun a b h e => by
    have := Int.mul_lt_mul_of_pos_right h hc
    omega
  have inj : ∀ a b : Int, a * c = b * c → a = b := fun a b e => by
    rcases Int.lt_trichotomy a b with h | h | h
    · exact absurd e (mono a b h)
    · exact h
    · exact absurd e.symm (mono b a h)
  refine List.pairwise_append.mpr ⟨List.pairwise_map.mpr (((hl.filter p).imp fun {a b} h => ?_)), List.pairwise_map.mpr (((hl.filter q).imp fun {a b} h => ?_)), fun a ha b hb => ?_⟩
  · rw [hf, hf]
    exact mono a b h
  · rw [hg, hg]
    exact mono a b h
  · obtain ⟨k, hk, rfl⟩ := List.mem_map.mp ha
    obtain ⟨j, hj, rfl⟩ := List.mem_map.mp hb
    rw [hf, hg]
    intro e
    have e' := inj _ _ e
    subst e'
    have h1 := (List.mem_filter.mp hk).2
    have h2 := (List.mem_filter.mp hj).2
    rw [hpq _ h1] at h2
    cases h2
theorem faults_ne (x : PySem.Str) : (faultsD x).Pairwise (fun a b => a.1 ≠ b.1) := by
  have hst := stepD_or x
  have hlt : ((upto 3).filter (begQ x)).Pairwise (· < ·) := List.Pairwise.filter _ (by rw [upto3]; decide)
  have h12 : (faults1 x ++ faults2 x).Pairwise (fun a b => a.1 ≠ b.1) := by
    refine filter_pair (c := stepD x) (by omega) (fun _ => rfl) (fun _ => rfl) hlt fun k hk => ?_
    have hk' := of_decide_eq_true hk
    rw [decide_eq_false (by omega)]
    rfl
  have m12 : ∀ a ∈ faults1 x ++ faults2 x, ∃ k, 0 ≤ k ∧ k ≤ 2 ∧ a.1 = k * stepD x := fun a ha => by
    rcases List.mem_append.mp ha with ha | ha
    all_goals
      obtain ⟨k, hk, rfl⟩ := List.mem_map.mp ha
      obtain ⟨h0, h2⟩ := beg_in (List.mem_filter.mp hk).1
      exact ⟨k, h0, h2, rfl⟩
  have m3 : ∀ a ∈ faults3 x, stepD x = 3 ∧ a.1 = 5 := fun a ha => by
    unfold faults3 at ha
    split at ha
    · rename_i h
      rw [List.mem_singleton.mp ha]
      exact ⟨h.1, rfl⟩
    · cases ha
  have m4 : ∀ a ∈ faults4 x, a.1 = 2 * stepD x + 2 ∨ a.1 = 2 * stepD x + 3 := fun a ha => by
    unfold faults4 at ha
    split at ha
    · rw [List.mem_singleton.mp ha]
      exact .inl rfl
    · split at ha
      · rw [List.mem_singleton.mp ha]
        exact .inr rfl
      · split at ha
        · rw [List.mem_singleton.mp ha]
          exact .inr rfl
        · cases ha
  have p3 : (faults3 x).Pairwise (fun a b => a.1 ≠ b.1) := by
    unfold faults3
    split <;> simp
  have p4 : (faults4 x).Pairwise (fun a b => a.1 ≠ b.1) := by
    unfold faults4
    repeat' split
    all_goals simp
  have kk : ∀ k : Int, 0 ≤ k → k ≤ 2 → k = 0 ∨ k = 1 ∨ k = 2 := fun k h0 h2 => by omega
  refine List.pairwise_append.mpr ⟨List.pairwise_append.mpr ⟨h12, p3, fun a ha b hb => ?_⟩, p4, fun a ha b hb => ?_⟩
  · obtain ⟨k, h0, h2, e⟩ := m12 a ha
    obtain ⟨e3, e5⟩ := m3 b hb
    rw [e, e5, e3]
    omega
  · rcases List.mem_append.mp ha with ha | ha
    · obtain ⟨k, h0, h2, e⟩ := m12 a ha
      rw [e]
      rcases kk k h0 h2 with rfl | rfl | rfl <;> rcases hst with hs | hs <;> rw [hs] <;> rcases m4 b hb with q | q <;> rw [q, hs] <;> decide
    · obtain ⟨e3, e5⟩ := m3 a ha
      rcases m4 b hb with q | q <;> rw [q, e5, e3] <;> decide
theorem place_ne {x : PySem.Str} {i j : Nat} {q r : Int × PySem.Str} (hj : j < i) (h1 : (faultsD x)[i]? = some q) (h2 : (faultsD x)[j]? = some r) : q.1 ≠ r.1 := by
  obtain ⟨hi, rfl⟩ := List.getElem?_eq_some_iff.mp h1
  obtain ⟨hj', rfl⟩ := List.getElem?_eq_some_iff.mp h2
  exact (List.pairwise_iff_getElem.mp (faults_ne x) j i hj' hi hj).symm
end Mine
end
section
open PySem PySem.W PyProof.Rows PySem.Calls PySem.Builtin PySem.Builtin.Str PySem.NumText
set_option maxRecDepth 100000
namespace Mine
theorem idx_ss {i j : Int} (h0 : 0 ≤ i) (h1 : 0 ≤ j) (n : Nat) : strSliceIndices (some i) (some j) 1 n = strSliceIndices (some (min i n)) (some (max (min i n) (min j n))) 1 n := by
  unfold strSliceIndices
  have a1 : ¬ i < 0 := by omega
  have a2 : ¬ j < 0 := by omega
  have a3 : ¬ min i (n : Int) < 0 := by omega
  have a4 : ¬ max (min i (n : Int)) (min j n) < 0 := by omega
  simp only [show (1 : Int) > 0 by decide, if_true, a1, a2, a3, a4, if_false]
  unfold sliceRange
  simp only [show (1 : Int) > 0 by decide, if_true]
  have e1 : max 0 (min (min i (n : Int)) n) = max 0 (min i n) := by omega
  rw [e1]
  by_cases h : max 0 (min i (n : Int)) < max 0 (min j n)
  · have e2 : max 0 (min (max (min i (n : Int)) (min j n)) n) = max 0 (min j n) := by omega
    rw [e2]
  · have h2 : ¬ max 0 (min i (n : Int)) < max 0 (min (max (min i (n : Int)) (min j n)) n) := by omega
    rw [if_neg h, if_neg h2]
theorem sl_ss {x : PySem.Str} {i j : Int} (h0 : 0 ≤ i) (h1 : 0 ≤ j) : Txt.slice x (some i) (some j) = ⟨((x.cps.toList.take j.toNat).drop i.toNat).toArray⟩ := by
  have hl : x.cps.toList.length = x.length := Array.length_toList
  have e : Txt.slice x (some i) (some j) = Txt.slice x (some (min i x.length)) (some (max (min i x.length) (min j x.length))) := by
    unfold Txt.slice
    rw [idx_ss h0 h1]
  rw [e, beq_iff_eq.mp (slice_closes (x := x) (i := min i x.length) (j := max (min i x.length) (min j x.length)) ⟨by omega, by omega, by omega⟩)]
  congr 2
  apply List.ext_getElem?
  intro k
  rw [List.getElem?_take, List.getElem?_drop, List.getElem?_drop, List.getElem?_take]
  by_cases c1 : (i.toNat + k) < j.toNat
  · rw [if_pos c1]
    by_cases c2 : i.toNat + k < x.length
    · rw [if_pos (by omega)]
      congr 1
      omega
    · rw [List.getElem?_eq_none (by omega : x.cps.toList.length ≤ i.toNat + k)]
      split
      · rw [List.getElem?_eq_none (by omega)]
      · rfl
  · rw [if_neg c1, if_neg (by omega)]
theorem sl_ns {x : PySem.Str} {j : Int} (h1 : 0 ≤ j) : Txt.slice x none (some j) = ⟨(x.cps.toList.take j.toNat).toArray⟩ := by
  have e : Txt.slice x none (some j) = Txt.slice x (some 0) (some j) := by
    unfold Txt.slice
    have : strSliceIndices none (some j) 1 x.length = strSliceIndices (some 0) (some j) 1 x.length := by
      unfold strSliceIndices
      simp only [show (1 : Int) > 0 by decide, if_true, show ¬ (0 : Int) < 0 by decide, if_false]
      rw [show max 0 (min 0 (x.length : Int)) = 0 by omega]
    rw [this]
  rw [e, sl_ss (Int.le_refl _) h1]
  rfl
theorem sl_sn {x : PySem.Str} {i : Int} (h0 : 0 ≤ i) : Txt.slice x (some i) none = ⟨(x.cps.toList.drop i.toNat).toArray⟩ := by
  have hl : x.cps.toList.length = x.length := Array.length_toList
  have e : Txt.slice x (some i) none = Txt.slice x (some i) (some (x.length : Int)) := by
    unfold Txt.slice
    have : strSliceIndices (some i) none 1 x.length = strSliceIndices (some i) (some (x.length : Int)) 1 x.length := by
      unfold strSliceIndices
      simp only [show (1 : Int) > 0 by decide, if_true, show ¬ (x.length : Int) < 0 by omega, if_false]
      rw [show max 0 (min (x.length : Int) (x.length : Int)) = (x.length : Int) by omega]
    rw [this]
  rw [e, sl_ss h0 (by omega)]
  congr 2
  rw [List.take_of_length_le (by omega)]
abbrev D1 (c : Nat) : Prop := 48 ≤ c ∧ c ≤ 57
theorem digQ_D1 {c : Nat} (h : digQ c = true) : D1 c := by
  unfold digQ at h
  rw [StrLaws.found_one] at h
  have e : (PySem.Str.ofString "0123456789").cps.toList = [48, 49, 50, 51, 52, 53, 54, 55, 56, 57] := by decide +kernel
  rw [decide_eq_true_eq, e] at h
  simp only [List.mem_cons, List.not_mem_nil, or_false] at h
  omega
theorem digs_some {y : PySem.Str} {l : List Nat} (e : y = ⟨l.toArray⟩) (h : ∀ c ∈ l, D1 c) (h1 : l ≠ []) (h2 : l.length ≤ 4300) : PySem.intText? y = some ((digitsVal l : Nat) : Int) := by
  subst e
  have q := intText_digits (x := ⟨l.toArray⟩) h h1 (by show l.toArray.size ≤ 4300; simpa using h2)
  simpa using q
theorem cat_toList (x y : PySem.Str) : (x ++ y).cps.toList = x.cps.toList ++ y.cps.toList := by
  show (x.cps ++ y.cps).toList = _
  simp
theorem zeros : (PySem.Str.ofString "000000").cps.toList = [48, 48, 48, 48, 48, 48] := by decide +kernel
/-- six figures of a fraction are read -/
theorem six_some {y : PySem.Str} (h : y.cps.toList.all digQ = true) : PySem.intText? (Txt.slice (y ++ PySem.Str.ofString "000000") none (some 6)) = some ((digitsVal ((y.cps.toList ++ [48, 48, 48, 48, 48, 48]).take 6) : Nat) : Int) := by
  have h' : ∀ c ∈ y.cps.toList, D1 c := fun c hc => digQ_D1 (List.all_eq_true.mp h c hc)
  have e := sl_ns (x := y ++ PySem.Str.ofString "000000") (j := 6) (by decide)
  rw [cat_toList, zeros] at e
  refine digs_some e ?_ ?_ ?_
  · intro c hc
    rcases List.mem_append.mp (List.mem_of_mem_take hc) with q | q
    · exact h' c q
    · simp only [List.mem_cons, List.not_mem_nil, or_false] at q
      omega
  · intro e
    have := congrArg List.length e
    simp at this
  · rw [List.length_take]
    exact Nat.le_trans (Nat.min_le_left _ _) (by decide)
end Mine
end
section
open PySem PySem.W PyProof.Rows PySem.Calls PySem.Builtin PySem.Builtin.Str PySem.NumText
set_option maxRecDepth 100000
namespace Mine
theorem pair_len (x : PySem.Str) {p : Int} (h : 0 ≤ p) : (pairS x p).length ≤ 2 := by
  unfold pairS
  rw [sl_ss h (by omega)]
  show ((List.take (p + 2).toNat x.cps.toList).drop p.toNat).toArray.size ≤ 2
  rw [List.size_toArray, List.length_drop, List.length_take]
  omega
/-- a text without a fault -/
theorem no_faults {x : PySem.Str} (h : faultsD x = []) : (∀ i : Nat, i < nB x → ∃ n, PySem.intText? (pairS x ((i : Int) * stepD x)) = some n) ∧ markQ x = true ∧ (figS x).cps.toList.all digQ = true := by
  unfold faultsD at h
  simp only [List.append_eq_nil_iff] at h
  obtain ⟨⟨⟨h1, h2⟩, h3⟩, h4⟩ := h
  have hst := stepD_or x
  have hm : markQ x = true := by
    cases hm : markQ x with
    | true => rfl
    | false =>
      unfold faults4 at h4
      rw [if_pos hm] at h4
      cases h4
  refine ⟨fun i hi => ?_, hm, ?_⟩
  · have hin : (i : Int) ∈ (upto 3).filter (begQ x) := by
      rw [beg_upto]
      exact List.mem_of_getElem? (upto_at hi)
    have h0 : 0 ≤ (i : Int) * stepD x := Int.mul_nonneg (by omega) (by omega)
    have hl := pair_len x h0
    have n1 : ¬ ((pairS x ((i : Int) * stepD x)).length : Int) < 2 := fun hs => by
      have : ((i : Int) * stepD x, PySem.Str.ofString "Incomplete time component") ∈ faults1 x := List.mem_map.mpr ⟨i, List.mem_filter.mpr ⟨hin, decide_eq_true hs⟩, rfl⟩
      rw [h1] at this
      cases this
    have e2 : ((pairS x ((i : Int) * stepD x)).length : Int) = 2 := by omega
    cases hq : PySem.intText? (pairS x ((i : Int) * stepD x)) with
    | some n => exact ⟨n, rfl⟩
    | none =>
      have : ((i : Int) * stepD x, refusedText (pairS x ((i : Int) * stepD x))) ∈ faults2 x := List.mem_map.mpr ⟨i, List.mem_filter.mpr ⟨hin, by
        rw [decide_eq_true e2]
        unfold badS
        rw [hq]
        rfl⟩, rfl⟩
      rw [h2] at this
      cases this
  · cases hd : (figS x).cps.toList.all digQ with
    | true => rfl
    | false =>
      unfold faults4 at h4
      rw [if_neg (by rw [hm]; decide), if_pos hd] at h4
      cases h4
end Mine
end
section
open PySem PySem.W PyProof.Rows PySem.Calls
set_option maxRecDepth 100000
set_option maxHeartbeats 4000000
namespace Mine
section
variable {prog : Program} {w : World} {A : Around} {E : Value → Shared → Prop} {s : Shared} {Q : Value → Shared → Prop}
theorem meets_c (c : Nat) (t u : Tok) : Meets (Builtin.«str.__mod__» ⟨[.str (Str.ofString "Invalid time separator: %c") t, .str ⟨#[c]⟩ u], []⟩) (fun _ R s => ∀ t' k, R (.ok (.ret (.str (Str.ofString "Invalid time separator: " ++ (⟨#[c]⟩ : Str)) t'))) { s with toks := k }) := by
  apply KPc.meets_of
  intro _ _ _ _ _ _ _
  rw [KPc.entry_is_s]
  unfold Builtin.Str.percentFormat
  refine wpAny_bind (wpAny_isInstance (typeIs_str _ _ _) F.sub_str_tuple ?_)
  refine wpAny_bind (wpAny_of_eq (a := some _) rfl ?_)
  refine wpAny_bind (KPc.wp_fills_str ?_)
  intro _
  kpc_if
  refine wpAny_bind (wpAny_pure ?_)
  refine wpAny_bind ?_
  rw [KPc.range_list]
  refine KPc.start ?_
  intro _ _
  refine KPc.turn ?_; kpc_check; (repeat kpc_if)
  refine wpAny_pure ?_
  refine KPc.after_add0 (y := Str.ofString "Invalid time separator: ") (by kpc_g) (by kernel_rfl) (by kpc_obj) ?_
  intro _ _
  refine KPc.turn ?_; kpc_check; (repeat kpc_if)
  refine wpAny_bind ?_; refine wpAny_holding ?_; (repeat kpc_if)
  refine wpAny_bind (wpAny_of_eq (a := c) rfl ?_)
  refine wpAny_pure ?_
  refine wpAny_pure ?_
  refine KPc.after_add (y := ⟨#[c]⟩) (by kpc_g) rfl (KPc.obj_none (ite_self _)) ?_
  intro _ _
  refine KPc.turn ?_
  refine wpAny_ite (KPc.ite_no (KPc.short_good (by kpc_g) (Nat.le_of_ble_eq_true rfl)) ?_)
  (repeat kpc_if)
  refine wpAny_pure ?_
  kpc_if
  refine KPc.finish_ok (by kpc_g) (Nat.le_of_ble_eq_true rfl) rfl ?_
  assumption
theorem mod_c {c : Nat} {t u : Tok} (h : ∀ t' k, Q (.str (Str.ofString "Invalid time separator: " ++ (⟨#[c]⟩ : Str)) t') { s with toks := k }) :
    wpAny (model prog w) A (binaryOp .Mod (.str (Str.ofString "Invalid time separator: %c") t) (.str ⟨#[c]⟩ u)) Q E s :=
  binaryOp_meets (T := "str") (op := .Mod) (typeIs_str s _ t) (typeIs_str s _ u) F.fills_str_mod F.slot_str_mod F.entry_str_mod (F.args_str_mod_2 _ _) (meets_c c t u) (fun t' k => ⟨(fun e => nomatch e), h t' k⟩)
end
end Mine
end
section
open PySem PySem.W PyProof.Rows PySem.Calls
set_option maxRecDepth 100000
set_option maxHeartbeats 8000000
namespace Mine
theorem fc22 {w : World} {g : Heap} (X : (hd.heap_39 w.params).In g) : ∃ o : Obj, g.get? 22 = some o ∧ o.cls = .type "list" ∧ ∃ t1 t2 t3 t4 t5 c, o.data = .seq #[.int 100000 t1, .int 10000 t2, .int 1000 t3, .int 100 t4, .int 10 t5] c := by
  have h := X 22 _ (by k_is)
  exact ⟨_, h, rfl, _, _, _, _, _, _, rfl⟩
end Mine
end
section
open PySem PySem.W PyProof.Rows PySem.Calls
set_option maxRecDepth 100000
namespace Mine
section
variable {prog : Program} {w : World} {A₀ A : Around} {s : Shared} {base h₀ g₀ : Heap} {outer : List Env} {L : Addr} {m : Str → Option Value} {env : Env} {news : List (Addr × Obj)} {K : Frag} {p : Program} {loose : List Str} {mean : ExcName → Option Value} {mg mb : Str → Option Value}
    {R : Result → Shared → Prop} {name qual : Str} {params : Arguments} {body : List Stmt} {scope : Scope} {dV kV doc pm cdv ct oc : Value} {an od : Option Addr} {osl : Array (Option Value)} {f : Addr} {args : Args} {binds : List (Str × Value)}
/-- a def with cells whose callees may catch, called from any def, at stacks that bear the caller -/
theorem codeC_defCSX (B : Below A₀ base outer h₀) (F : Fr h₀ L s.heap m) (X₀ : K.In h₀) (N : News h₀ L s.heap news) (T : Top p loose mean mg mb h₀) (XB : K.In base) (TB : Top p loose mean mg mb base) (D : KtsDicts (outer.filterMap (·.frame)) h₀)
    (T0 : KtsTurn (outer.filterMap (·.frame)) g₀ h₀) (hA : A.frames = some (env :: outer)) (hf : env.frame = some L) (hke : env.scope.kind = .function)
    (ho : K.lookup f = some ⟨oc, od, .func (fnOf name qual params body scope dV kV doc pm an cdv ct), osl⟩) (hcd : codeIn K cdv qual = true) (hroom : A.depth < recursionLimit)
    (hbind : BindsTo s (fnOf name qual params body scope dV kV doc pm an cdv ct) args binds) (hkind : (binds.all fun y => scope.names.lookup y.1 == some .local || scope.names.lookup y.1 == some .cell) = true)
    (hnd : ((cellsFrom 0 scope.names []).map (·.1)).Nodup)
    (h : ∀ g L' h₁ tk cells, Fr h₀ L g m → Fr g L' h₁ (bindL (envOfC qual scope L' f cdv).kindOf binds fun _ => none) → News g L' h₁ (cells ++ news) →
      CellsAre (bindC (envOfC qual scope L' f cdv).kindOf binds fun _ => none) (cellsFrom (L' + 1) scope.names []) cells → Below A base (env :: outer) g → K.In g → Top p loose mean mg mb g → KtsDicts ((env :: outer).filterMap (·.frame)) g → (∀ p ∈ news, p.1 < L') →
      wpC (model prog w) (A.deeper (envOfC qual scope L' f cdv)) (execs body (envOfC qual scope L' f cdv))
        (fun fl s' => LeaveS ((env :: outer).filterMap (·.frame)) A₀ base outer K p loose mean mg mb g₀ h₀ L m g R (match fl with | .ret v => v | _ => .none) s')
        (fun e s' => wpAny (model prog w) (A.deeper (envOfC qual scope L' f cdv)) (leaving (envOfC qual scope L' f cdv) e) (fun _ s'' => R (.error e) s'') (fun e' s'' => R (.error e') s'') s')
        { s with heap := h₁, toks := tk })
    (hco : scope.isCoroutine = false) (hgen : scope.isGenerator = false) (hk : scope.kind = .function) : codeC (model prog w) A (.call (.ref f) args) R s := by
  have X := X₀.keeps F.keep
  obtain ⟨FG, B₂, st, _⟩ := groundX (R := R) B F N hA hf hke
  refine codeC_call_cells (fd := fnOf name qual params body scope dV kV doc pm an cdv ct) (body := body) (binds := binds) hroom (X _ _ ho) rfl (T.nolimit.keeps F.keep) (codeRec_of X hcd) rfl hbind rfl (kindsX hkind _) (fun s₁ x => ?_) hco hgen hk
  obtain ⟨h₁, tk, rfl, _⟩ := x.done
  have hk₁ := x.toInCall.keep
  obtain ⟨cells, NC, Y⟩ := Cl.news (h₀ := s.heap) (Nat.le_refl _) fun n c hm => ⟨x.cell n c (lookup_of_mem_nodup (cellsFrom_names scope.names 0 (s.heap.objs.size + 1) [] [] rfl ▸ hnd) hm), x.above n c hm⟩
  refine wpC_mono (h _ s.heap.objs.size h₁ tk cells FG ⟨x.toInCall.ns, fun b o e => hk₁ b o (of_hideAll _ e), Nat.le_of_eq (hideAll_size _ _)⟩ (fun q hq => ?_) Y B₂ (X₀.keeps st) (T.keeps st) (dictsX F B N D hA hf hke) (fun q hq => Heap.lt_size (N q hq).1)) (fun fl s' hl => leaveSX B F N XB TB D T0 hA hf hke hl) fun _ _ y => y
  rcases List.mem_append.mp hq with hq | hq
  · refine ⟨(NC q hq).1, (NC q hq).2.1, ?_⟩
    cases e : (hideAll s.heap (news.map (·.1))).get? q.1 with
    | none => rfl
    | some o =>
      have := of_hideAll _ e
      rw [(NC q hq).2.2] at this
      cases this
  · exact ⟨hk₁ _ _ (N q hq).1, Nat.ne_of_lt (Heap.lt_size (N q hq).1), hideAll_none _ (List.mem_map_of_mem hq)⟩
end
end Mine
end
section
open PySem PySem.W PyProof.Rows PySem.Calls
set_option maxRecDepth 100000
namespace Mine
section
variable {prog : Program} {w : World} {A : Around} {E : Value → Shared → Prop} {s : Shared} {g : Heap} {L : Addr} {m : Str → Option Value}
theorem inplace_seq {M : Model} {a b : Value} {T id : String} {Q : Value → Shared → Prop} (ha : s.TypeIs a T) (hb : s.TypeIs b T)
    (hi : typeLookup (.type T) (dunderI "add") = pure (some (.builtin id))) (hs : isSeqSlot (some (.builtin id)) = true) (hfill : fillsNumberSlot (.type T) "add" = pure false)
    (hc : wpAny M A (call (.builtin id) [a, b]) Q E s) : wpAny M A (inplaceOp .Add a b) Q E s := by
  unfold inplaceOp
  refine wpAny_holding ?_
  have hfi : fillsInplaceSlot (.type T) "add" (Operator.Add == .Add) = pure false := by
    unfold fillsInplaceSlot
    show (typeLookup (.type T) (dunderI "add") >>= fun fi => pure (fi.isSome && !isSeqSlot fi)) = pure false
    rw [hi]
    show (pure (true && !isSeqSlot (some (.builtin id))) : Sem Bool) = pure false
    rw [hs]
    rfl
  refine wpAny_bind (wpAny_typeOf ha (wpAny_bind (wpAny_of_eq hfi ?_)))
  show wpAny M A (if false = true then _ else _) Q E s
  rw [if_neg Bool.false_ne_true]
  refine wpAny_bind (wpAny_binaryOp1_none (nm := "add") ha hb hfill ?_)
  refine wpAny_bind (wpAny_of_eq (PySem.seqSlot_of hi hs) ?_)
  exact wpAny_bind (wpAny_rule hc)
/-- a list of the ledger made longer by another -/
theorem iadd_lists {lf D : Addr} {its its2 : Array Value} {n n2 : Nat} {rest : List (Addr × Obj)} {Q : Value → Shared → Prop} (F : Fr g L s.heap m) (N : News g L s.heap ((lf, W.listOf its n) :: rest)) (hD : (D, W.listOf its2 n2) ∈ rest) (off : ∀ p ∈ rest, p.1 ≠ lf)
    (hz : its.size ≤ 1000) (hz2 : its2.size ≤ 1000) (h : ∀ h' c, Fr g L h' m → News g L h' ((lf, W.listOf (its ++ its2) c) :: rest) → Q (.ref lf) { s with heap := h' }) : wpAny (model prog w) A (inplaceOp .Add (.ref lf) (.ref D)) Q E s := by
  have z := N _ (.head _)
  have zD := N _ (.tail _ hD)
  refine inplace_seq (T := "list") ⟨_, z.1, rfl⟩ ⟨_, zD.1, rfl⟩ PySem.F.slot_list_iadd.lookup (by decide +kernel) noFill_list_add ?_
  have big : (1000 : Nat) + 1000 ≤ sizeLine := by decide
  refine call_meets PySem.F.slot_list_iadd ⟨_, z.1, rfl⟩ PySem.F.entry_list_iadd (PySem.F.args_list_iadd_2 _ _) (PySem.AutoSeq1.list___iadd___list_list_0 lf its n D its2 n2 ?_ (by omega) (by omega)) ⟨z.1, zD.1, ?_⟩
  · have e : Builtin.List.listTooLong (its.size + its2.size) = false := decide_eq_false (by omega)
    rw [e, Bool.and_false]
    decide
  · obtain ⟨c, hc⟩ : ∃ c, (s.heap.update lf (Obj.mapSeq fun x => x ++ its2)).get? lf = some (W.listOf (its ++ its2) c) := ⟨_, Heap.get?_update_self _ z.1 rfl⟩
    refine h _ c (F.change (Heap.SameBut.update ..) z.2.1 z.2.2) fun p hp => ?_
    rcases List.mem_cons.mp hp with rfl | hp
    · exact ⟨hc, z.2⟩
    · exact ⟨(Heap.get?_update_other _ _ (off p hp).symm).trans (N p (.tail _ hp)).1, (N p (.tail _ hp)).2⟩
end
end Mine
namespace Mine
section
variable {prog : Program} {w : World} {A : Around} {E : Value → Shared → Prop} {s : Shared} {g : Heap} {L : Addr} {m : Str → Option Value}
/-- two lists of the ledger added -/
theorem add_lists {a b : Addr} {its its2 its3 : Array Value} {n n2 : Nat} {nw : List (Addr × Obj)} {Q : Value → Shared → Prop} (F : Fr g L s.heap m) (N : News g L s.heap nw) (h1 : (a, W.listOf its n) ∈ nw) (h2 : (b, W.listOf its2 n2) ∈ nw) (he : its ++ its2 = its3)
    (hz : its.size ≤ 1000) (hz2 : its2.size ≤ 1000) (h : ∀ D h', (∀ p ∈ nw, @LT.lt Nat _ p.1 D) → Fr g L h' m → News g L h' ((D, W.listOf its3 0) :: nw) → Q (.ref D) { s with heap := h' }) : wpAny (model prog w) A (binaryOp .Add (.ref a) (.ref b)) Q E s := by
  subst he
  have z := N _ h1
  have z2 := N _ h2
  have big : (1000 : Nat) + 1000 ≤ sizeLine := by decide
  refine wpAny_binaryOp_concat (T := "list") ⟨_, z.1, rfl⟩ ⟨_, z2.1, rfl⟩ noFill_list_add seq_list_add ?_
  refine call_meets PySem.F.slot_list_add ⟨_, z.1, rfl⟩ PySem.F.entry_list_add (PySem.F.args_list_add_2 _ _) (PySem.AutoSeq1.list___add___list_list_0 a its n b its2 n2 (by omega)) ⟨z.1, z2.1, ?_⟩
  exact h _ _ (fun p hp => Heap.lt_size (N p hp).1) (F.push _) (News.push F N _)
end
end Mine
end
section
open PySem PySem.W PyProof.Rows PySem.Calls PySem.Spec
set_option maxRecDepth 100000
namespace Mine
open LCg LCt
section
variable {prog : Program} {w : World} {A : Around} {E : Value → Shared → Prop} {s : Shared} {h₀ : Heap} {L : Addr} {m : Str → Option Value} {env : Env}
theorem any_take_succ (p : Nat → Bool) {l : List Nat} {i c : Nat} (h : l[i]? = some c) : (l.take (i + 1)).any p = ((l.take i).any p || p c) := by
  rw [List.take_add_one, h, List.any_append]
  simp
theorem compRestT_str {ct : Expr} {x : Str} {pe : Pos} {y : PySem.Str} {scope : Scope} {cl : List (Str × Addr)} {Fin : List Value → List (Addr × Obj) → Prop} {news : List (Addr × Obj)} (p : Nat → Bool)
    (hfin : ∀ ys : List Value, ys.isEmpty = !(y.cps.toList.any p) → Fin ys news) (hkind : scope.kind = .function) (hx : scope.names.lookup x = some .local) (hd : (x == ("__debug__" : Str)) = false)
    (htest : ∀ (c : Nat) (u : Tok) (ys : List Value) (I : Addr) (oI : Obj) (C : Addr) (oC : Obj) (D : Addr) (m₂ : Str → Option Value) (h : Heap) (tk : Nat) (E' : Value → Shared → Prop), NsObj oC m₂ → m₂ x = some (.str ⟨#[c]⟩ u) → Fr h₀ L h m → News h₀ L h ((I, oI) :: (C, oC) :: (D, lst ys) :: news) →
      wpAny (model prog w) A (isTrue ct (compEnvC scope cl C env) (eval ct (compEnvC scope cl C env))) (TestIs h₀ L m { s with heap := h, toks := tk } ((I, oI) :: (C, oC) :: (D, lst ys) :: news) (p c)) E' { s with heap := h, toks := tk }) :
    ∀ k i (ys : List Value), i + k = y.cps.size → ys.isEmpty = !((y.cps.toList.take i).any p) → CompRestT prog w A h₀ L m env ct (.Name x pe) x scope cl s (fun _ => True) (SignAt y) Fin k i ys news
  | 0, i, ys, hk, hy => by
    rw [List.take_of_length_le (by simp; omega)] at hy
    exact hfin ys hy
  | k + 1, i, ys, hk, hy => fun v I oI C oC D m₂ h tk E' hP hC hm F N off d => by
    obtain ⟨c, u, hc, rfl⟩ := hP
    have hn := any_take_succ p (l := y.cps.toList) (i := i) (c := c) (by simpa using hc)
    have rest := compRestT_str (pe := pe) p hfin hkind hx hd htest k (i + 1)
    refine wpAny_mono (htest c u _ I oI C oC D m₂ h tk E' hC hm F N) (fun ok s' q => ?_) fun _ _ e => e
    obtain ⟨rfl, h', tk', rfl, F', N'⟩ := q
    cases hp : p c with
    | false =>
      simp only [Bool.false_eq_true, if_false]
      rw [hp, Bool.or_false] at hn
      exact ⟨h', tk', news, rfl, F', N', off, trivial, rest ys (by omega) (by rw [hn]; exact hy)⟩
    | true =>
      simp only [if_true]
      rw [hp, Bool.or_true] at hn
      refine LCgL.ld_own N' (.tail _ (.head _)) hC hm ?_ (by simp [compEnvC, relabel, hkind]) (lookup_relabel_local hx) hd
      exact ⟨h', tk', news, rfl, F', N', off, trivial, rest _ (by omega) (by rw [hn]; simp)⟩
/-- a list comprehension over a text that keeps the signs that pass a test: whether none does -/
theorem ListComp_str {ct iter : Expr} {x : Str} {px pe : Pos} {scope : Scope} {cl : List (Str × Addr)} {pos : Pos} {Q : Value → Shared → Prop} {y : PySem.Str} {t : Tok} {news : List (Addr × Obj)} (p : Nat → Bool)
    (F : Fr h₀ L s.heap m) (N : News h₀ L s.heap news) (hh : A.handled = none)
    (hev : ∀ Q' : Value → Shared → Prop, Q' (.str y t) s → wpAny (model prog w) A (eval iter env) Q' E s)
    (hsz : y.cps.size ≤ sizeLine)
    (hclos : closureFor scope env = pure cl) (hcell : ∀ y ∈ scope.names, y.2 ≠ .cell) (hkind : scope.kind = .function)
    (hnames : ∀ y ∈ scope.names, y.2 = .local → scope.names.lookup y.1 = some .local) (hx : scope.names.lookup x = some .local) (hd : (x == ("__debug__" : Str)) = false) (hs : ∀ x, foldedSetIterable iter env x = pure x)
    (htest : ∀ (c : Nat) (u : Tok) (ys : List Value) (I : Addr) (oI : Obj) (C : Addr) (oC : Obj) (D : Addr) (m₂ : Str → Option Value) (h : Heap) (tk : Nat) (E' : Value → Shared → Prop), NsObj oC m₂ → m₂ x = some (.str ⟨#[c]⟩ u) → Fr h₀ L h m → News h₀ L h ((I, oI) :: (C, oC) :: (D, lst ys) :: news) →
      wpAny (model prog w) A (isTrue ct (compEnvC scope cl C env) (eval ct (compEnvC scope cl C env))) (TestIs h₀ L m { s with heap := h, toks := tk } ((I, oI) :: (C, oC) :: (D, lst ys) :: news) (p c)) E' { s with heap := h, toks := tk })
    (fin : ∀ D h tk ys, ys.isEmpty = !(y.cps.toList.any p) → Fr h₀ L h m → News h₀ L h ((D, lst ys) :: news) → Off1 D news → Q (.ref D) { s with heap := h, toks := tk }) :
    wpAny (model prog w) A (eval (.ListComp (.Name x pe) [⟨.Name x px, iter, [ct], 0⟩] scope pos) env) Q E s := by
  rw [eval_ListComp]
  refine wpAny_comprehension_free (use := none) rfl hs hclos hkind hnames (hev _ ?_)
  have rr : ∀ s₂ : Shared, (∃ h, s₂ = { s with heap := h }) → ∀ D C h tk m' ys news', Fr h₀ L h m → News h₀ L h ((D, lst ys) :: news') → Off1 D news' → h.Ns C m' → h₀.get? C = none → h₀.get? D = none → C ≠ L → D ≠ L → C ≠ D → (∀ p ∈ news', p.1 ≠ C) → (fun (ys : List Value) nw => ys.isEmpty = !(y.cps.toList.any p) ∧ nw = news) ys news' →
      compPost (model prog w) A E none Q (.ref D) C (.ok .next) { s₂ with heap := h, toks := tk } := by
    rintro _ ⟨h1, rfl⟩ D C h tk m' ys news' F' N' o1 hn hC₀ hD₀ hCL hDL hCD offC ⟨hy, rfl⟩
    refine ⟨m', hn, fun h'' hs'' => fin D h'' tk ys hy (F'.change hs'' hCL hC₀) (fun p hp => ?_) o1⟩
    refine ⟨hs''.extBut _ _ ?_ (N' p hp).1, (N' p hp).2⟩
    rcases List.mem_cons.mp hp with rfl | hp
    · exact Ne.symm hCD
    · exact offC p hp
  have go : ∀ (T : String) (o : Obj), Walks prog w A s.heap.objs.size [s.heap.objs.size] [s.heap.objs.size] y.cps.size (SignAt y) (fun i h => h.IsStrIter s.heap.objs.size T y t i) → (s.heap.push o).IsStrIter s.heap.objs.size T y t 0 →
      wpAny (model prog w) A (newList []) (fun acc s₃ => wpAny (model prog w) A (newFunctionEnv scope env.globals cl [] env.qual none .none (some env)) (fun cenv s₄ =>
        codeAny (model prog w) A (.compStart (.ListComp (.Name x pe) [⟨.Name x px, iter, [ct], 0⟩] scope pos) 0 (.ref s.heap.objs.size) acc { cenv with scope := relabel scope env }) (compPost (model prog w) A E none Q acc cenv.locals) s₄) E s₃) E { s with heap := s.heap.push o } := by
    intro T o W hst
    have up : ∀ b o', s.heap.get? b = some o' → (s.heap.push o).get? b = some o' := fun b o' e => Heap.get?_push_of_some _ e
    refine block_T (S := fun _ => True) (Fin := fun (ys : List Value) nw => ys.isEmpty = !(y.cps.toList.any p) ∧ nw = news) W hsz (fun i h st => by obtain ⟨o, e, _⟩ := st; exact ⟨o, e⟩)
      (fun i h h' o nw st e e' k N S => by obtain ⟨o', q, r⟩ := st; rw [e] at q; cases q; exact ⟨o, e', r⟩) hcell hkind hx hst (fun b hb => ?_)
      (F.keeps up) (N.grown up) (Nat.ne_of_lt F.ns.lt) (next_is_new F) (fun p hp => Nat.ne_of_lt (Heap.lt_size (N p hp).1)) trivial (compRestT_str (s := { s with heap := s.heap.push o }) p (fun ys hy => And.intro hy rfl) hkind hx hd (fun c u ys I oI C oC D m₂ h tk E' hC hm F' N' => htest c u ys I oI C oC D m₂ h tk E' hC hm F' N') y.cps.size 0 [] (Nat.zero_add _) rfl) (rr _ ⟨_, rfl⟩)
    show b < (s.heap.push _).objs.size
    rw [Heap.size_push, List.mem_singleton.mp hb]
    exact Nat.lt_succ_self _
  cases ha : y.cps.all (· < 128)
  · exact wpAny_pyIter_wide ha (go "str_iterator" _ (Walks.strWide hh _ y t) ⟨_, Heap.get?_push_size _ rfl, rfl, rfl⟩)
  · exact wpAny_pyIter_ascii ha (go "str_ascii_iterator" _ (Walks.strAscii hh _ y t) ⟨_, Heap.get?_push_size _ rfl, rfl, rfl⟩)
end
end Mine
end
section
open PySem PySem.W PyProof.Rows PySem.Calls
set_option maxRecDepth 100000
namespace Mine
theorem argBest_le (bt : Nat → Nat → Bool) : ∀ k, argBest bt k ≤ k
  | 0 => Nat.le_refl _
  | k + 1 => by
    simp only [argBest]
    split
    · exact Nat.le_refl _
    · exact Nat.le_succ_of_le (argBest_le bt k)
section
variable {prog : Program} {w : World} {A : Around} {R : Result → Shared → Prop} {I : Addr} {fp : List Addr} {n : Nat} {P : Nat → Value → Prop} {St : Nat → Heap → Prop}
/-- the loop of min, where a comparison may look at what stood before -/
theorem minLoop (s₀ : Shared) (orig : Heap) (W : Walks prog w A.in1 I fp [I] n P St) (bt : Nat → Nat → Bool) (S : Addr) (hSf : S ∉ fp) (hIS : S ≠ I) (hoI : orig.get? I = none) (hoS : orig.get? S = none)
    (hcmp : ∀ i j vi vj (s : Shared) (Q : Value → Shared → Prop) (E : Value → Shared → Prop), j < i → P i vi → P j vj → (∀ b o, orig.get? b = some o → s.heap.get? b = some o) → Q (.bool (bt i j)) s → wpAny (model prog w) A.in1 (richCompare .Lt vi vj) Q E s)
    (hR : ∀ v h tk, P (argBest bt (n - 1)) v → (∀ b o, orig.get? b = some o → h.get? b = some o) → R (.ok (.ret v)) { s₀ with heap := h, toks := tk }) :
    ∀ (k j : Nat) (h : Heap) (tk : Nat) (vb : Value) (c : Nat), n = j + 1 + k → St (j + 1) h → P (argBest bt j) vb → h.get? S = some { cls := .type "list", dict := none, data := .seq #[vb, vb] c, slots := #[] } →
    (∀ b o, orig.get? b = some o → h.get? b = some o) → codeAny (model prog w) A (.builtin "min.loop" ⟨[.ref I, .none, .ref S], []⟩) R { s₀ with heap := h, toks := tk } := by
  have hname : (toString "min" ++ toString ".loop" : String) = "min.loop" := by decide
  have keepS : ∀ {h h' : Heap}, (∀ b o, b ∉ [I] → h.get? b = some o → h'.get? b = some o) → ∀ {o : Obj}, h.get? S = some o → h'.get? S = some o := fun hk o e => hk S o (fun q => hIS (List.mem_singleton.mp q)) e
  have keepO : ∀ {h h' : Heap}, (∀ b o, orig.get? b = some o → h.get? b = some o) → (∀ b o, b ∉ [I] → h.get? b = some o → h'.get? b = some o) → ∀ b o, orig.get? b = some o → h'.get? b = some o := fun hk hk' b o e => by
    refine hk' b o (fun q => ?_) (hk b o e)
    rw [List.mem_singleton.mp q, hoI] at e
    cases e
  have keepU : ∀ {h : Heap} {f : Obj → Obj}, (∀ b o, orig.get? b = some o → h.get? b = some o) → ∀ b o, orig.get? b = some o → (h.update S f).get? b = some o := fun hk b o e => by
    refine (Heap.get?_update_other _ _ fun q => ?_).trans (hk b o e)
    rw [← q, hoS] at e
    cases e
  intro k
  induction k with
  | zero =>
    intro j h tk vb c hn hst hPb hS hk
    refine codeAny_builtin F.entry_min_loop ?_
    rw [Around.under_plainId F.plain_min_loop _]
    show wpAny _ A.in1 (seqItems? (.ref S) >>= _) _ _ _
    refine wpAny_bind (wpAny_seqItems hS rfl ?_)
    show wpAny _ A.in1 (tryCatch (pyNext (.ref I)) _ >>= _) _ _ _
    refine wpAny_bind (wpAny_tryCatch (W.done _ _ _ (by rw [hn]; exact hst) fun h' tk' hk' => ?_))
    show wpAny _ A.in1 (updateSeq S (fun _ => #[]) >>= _) _ _ _
    refine wpAny_bind (wpAny_updateSeq (keepS hk' hS) rfl (wpAny_bind (wpAny_letGo (wpAny_pure ?_))))
    exact hR vb _ _ (by rw [hn]; exact hPb) (keepU (keepO hk hk'))
  | succ k ih =>
    intro j h tk vb c hn hst hPb hS hk
    refine codeAny_builtin F.entry_min_loop ?_
    rw [Around.under_plainId F.plain_min_loop _]
    show wpAny _ A.in1 (seqItems? (.ref S) >>= _) _ _ _
    refine wpAny_bind (wpAny_seqItems hS rfl ?_)
    show wpAny _ A.in1 (tryCatch (pyNext (.ref I)) _ >>= _) _ _ _
    refine wpAny_bind (wpAny_tryCatch (W.item (j + 1) _ _ _ (by omega) hst fun v h' tk' hP hst' hk' => ?_))
    have hS' := keepS hk' hS
    show wpAny _ A.in1 (tryCatch (holding [v, v] (richCompare .Lt v vb >>= _)) _ >>= _) _ _ _
    refine wpAny_bind (wpAny_tryCatch (wpAny_holding (wpAny_bind (hcmp (j + 1) (argBest bt j) v vb _ _ _ (Nat.lt_succ_of_le (argBest_le bt j)) hP hPb (keepO hk hk') ?_))))
    refine wpAny_bind (wpAny_holding (wpAny_truthy_bool ?_))
    refine wpAny_bind (wpAny_letGo (wpAny_pure ?_))
    cases hb : bt (j + 1) (argBest bt j) with
    | true =>
      simp only [if_true]
      refine wpAny_bind (wpAny_updateSeq hS' rfl (wpAny_bind (wpAny_letGo ?_)))
      rw [hname]
      refine wpAny_pure ⟨plainId_quiet F.plain_min_loop _, ih (j + 1) _ tk' v _ (by omega) (W.frame _ h' _ hst' fun b hbf o e => ?_) (by simp only [argBest, hb, if_true]; exact hP) (Heap.get?_update_self _ hS' rfl) (keepU (keepO hk hk'))⟩
      exact (Heap.get?_update_other _ _ (fun q : S = b => hSf (by rw [q]; exact hbf))).trans e
    | false =>
      simp only [Bool.false_eq_true, if_false]
      refine wpAny_bind (wpAny_letGo ?_)
      rw [hname]
      exact wpAny_pure ⟨plainId_quiet F.plain_min_loop _, ih (j + 1) h' tk' vb c (by omega) hst' (by simp only [argBest, hb, Bool.false_eq_true, if_false]; exact hPb) hS' (keepO hk hk')⟩
end
section
variable {prog : Program} {w : World} {A : Around} {E : Value → Shared → Prop} {s : Shared} {R : Result → Shared → Prop} {I : Addr} {fp : List Addr} {n : Nat} {P : Nat → Value → Prop} {St : Nat → Heap → Prop}
theorem minFirst (s₀ : Shared) (orig : Heap) (W : Walks prog w A.in1 I fp [I] n P St) (bt : Nat → Nat → Bool) (S : Addr) (hSf : S ∉ fp) (hIS : S ≠ I) (hoI : orig.get? I = none) (hoS : orig.get? S = none)
    (hcmp : ∀ i j vi vj (s : Shared) (Q : Value → Shared → Prop) (E : Value → Shared → Prop), j < i → P i vi → P j vj → (∀ b o, orig.get? b = some o → s.heap.get? b = some o) → Q (.bool (bt i j)) s → wpAny (model prog w) A.in1 (richCompare .Lt vi vj) Q E s)
    (hR : ∀ v h tk, P (argBest bt (n - 1)) v → (∀ b o, orig.get? b = some o → h.get? b = some o) → R (.ok (.ret v)) { s₀ with heap := h, toks := tk })
    (hn : 0 < n) {h : Heap} {tk c : Nat} (hst : St 0 h) (hS : h.get? S = some { cls := .type "list", dict := none, data := .seq #[] c, slots := #[] }) (hk : ∀ b o, orig.get? b = some o → h.get? b = some o) :
    codeAny (model prog w) A (.builtin "min.loop" ⟨[.ref I, .none, .ref S], []⟩) R { s₀ with heap := h, toks := tk } := by
  have hname : (toString "min" ++ toString ".loop" : String) = "min.loop" := by decide
  refine codeAny_builtin F.entry_min_loop ?_
  rw [Around.under_plainId F.plain_min_loop _]
  show wpAny _ A.in1 (seqItems? (.ref S) >>= _) _ _ _
  refine wpAny_bind (wpAny_seqItems hS rfl ?_)
  show wpAny _ A.in1 (tryCatch (pyNext (.ref I)) _ >>= _) _ _ _
  refine wpAny_bind (wpAny_tryCatch (W.item 0 _ _ _ hn hst fun v h' tk' hP hst' hk' => ?_))
  have hS' : h'.get? S = _ := hk' S _ (fun q => hIS (List.mem_singleton.mp q)) hS
  show wpAny _ A.in1 (updateSeq S (fun _ => #[v, v]) >>= _) _ _ _
  refine wpAny_bind (wpAny_updateSeq hS' rfl ?_)
  rw [hname]
  refine wpAny_pure ⟨plainId_quiet F.plain_min_loop _, minLoop s₀ orig W bt S hSf hIS hoI hoS hcmp hR (n - 1) 0 _ tk' v _ (by omega) (W.frame _ h' _ hst' fun b hbf o e => ?_) hP (Heap.get?_update_self _ hS' rfl) fun b o e => ?_⟩
  · exact (Heap.get?_update_other _ _ (fun q : S = b => hSf (by rw [q]; exact hbf))).trans e
  · refine (Heap.get?_update_other _ _ fun q => ?_).trans (hk' b o (fun q => ?_) (hk b o e))
    · rw [← q, hoS] at e
      cases e
    · rw [List.mem_singleton.mp q, hoI] at e
      cases e
/-- min of a list, by comparisons that may look at the heap -/
theorem call_min_list {l : Addr} {items : Array Value} {Q : Value → Shared → Prop} (hh : A.in1.handled = none) (hl : s.heap.IsList l items) (hn : 0 < items.size) (bt : Nat → Nat → Bool)
    (hcmp : ∀ i j vi vj (s' : Shared) (Q : Value → Shared → Prop) (E : Value → Shared → Prop), j < i → items[i]? = some vi → items[j]? = some vj → (∀ b o, s.heap.get? b = some o → s'.heap.get? b = some o) → Q (.bool (bt i j)) s' → wpAny (model prog w) A.in1 (richCompare .Lt vi vj) Q E s')
    (hQ : ∀ v h tk, items[argBest bt (items.size - 1)]? = some v → (∀ b o, s.heap.get? b = some o → h.get? b = some o) → Q v { s with heap := h, toks := tk }) :
    wpAny (model prog w) A (call (.builtin "min") [.ref l]) Q E s := by
  have hname : (toString "min" ++ toString ".loop" : String) = "min.loop" := by decide
  have hlt : l < s.heap.objs.size := by
    obtain ⟨o, ho, _⟩ := hl
    exact Heap.lt_size ho
  refine call_function_tree F.kind_min F.plain_min F.entry_min (F.args_min1 _) ?_
  show wpAny _ A.in1 (Builtin.Builtins.bindParams "min" ["key", "default"] 0 ⟨[], []⟩ >>= _) _ _ s
  refine wpAny_bind (wpAny_of_eq (show Builtin.Builtins.bindParams "min" ["key", "default"] 0 ⟨[], []⟩ = pure [none, none] from rfl) ?_)
  refine wpAny_bind (wpAny_pure ?_)
  refine wpAny_bind (wpAny_pyIter_list hl ?_)
  refine wpAny_bind (wpAny_newObj_type ?_)
  rw [hname]
  have hIn : s.heap.get? s.heap.objs.size = none := by
    cases e : s.heap.get? s.heap.objs.size with
    | none => rfl
    | some o => exact absurd (Heap.lt_size e) (Nat.lt_irrefl _)
  have hSn : s.heap.get? (s.heap.objs.size + 1) = none := by
    cases e : s.heap.get? (s.heap.objs.size + 1) with
    | none => rfl
    | some o => exact absurd (Heap.lt_size e) (Nat.not_lt.mpr (Nat.le_succ _))
  refine wpAny_pure ⟨plainId_quiet F.plain_min_loop _, minFirst s s.heap (Walks.list hh s.heap.objs.size l (Nat.ne_of_lt hlt) items) bt _ ?_ ?_ hIn ?_ hcmp (fun v h tk hv hk => hQ v h tk hv hk) hn ?_ (Heap.get?_push_size _ rfl) fun b o e => ?_⟩
  all_goals (try rw [Heap.size_push])
  · intro hm
    rcases List.mem_cons.mp hm with q | q
    · exact absurd q (Nat.succ_ne_self _)
    · have q' := List.mem_singleton.mp q
      exact absurd hlt (by rw [← q']; exact Nat.not_lt.mpr (Nat.le_succ _))
  · exact Nat.succ_ne_self _
  · exact hSn
  · exact ⟨⟨_, Heap.get?_push_of_some _ (Heap.get?_push_size _ rfl), rfl, rfl⟩, hl.at fun o e => Heap.get?_push_of_some _ (Heap.get?_push_of_some _ e)⟩
  · exact Heap.get?_push_of_some _ (Heap.get?_push_of_some _ e)
end
end Mine
end
section
open PySem PySem.W PyProof.Rows PySem.Calls PySem.SeqAt
open PySem.AutoSeq1 (wpAny_loadPart')
open MeetsSeq MeetsSeq2 MeetsSeq3
set_option maxRecDepth 100000
set_option maxHeartbeats 4000000
namespace Mine
/-- tuples of two, with unlike numbers first -/
theorem tuple_ltAt (l b : Addr) {i j : Int} {t u : Tok} {v v2 : Value} (n n2 : Nat) (dd dd2 : Option Addr) (sl sl2 : Array (Option Value)) (hne : i ≠ j) :
    Meets (Builtin.«tuple.__lt__» ⟨[.ref l, .ref b], []⟩)
      (fun A R s => s.heap.get? l = some { cls := .type "tuple", dict := dd, data := .seq #[.int i t, v] n, slots := sl } ∧ s.heap.get? b = some { cls := .type "tuple", dict := dd2, data := .seq #[.int j u, v2] n2, slots := sl2 } ∧
        R (.ok (.ret (.bool (decide (i < j))))) s) :=
  .of_wp fun prog w A R s h => by
    obtain ⟨hp, g, d, tk, os⟩ := s; obtain ⟨hl, hb, h⟩ := h
    have f2 := AutoSeq1.sub_tuple_tuple
    have he : ∀ (Q : Bool → Shared → Prop) (E : Value → Shared → Prop), Q false ⟨hp, g, d, tk, os⟩ → wpAny (model prog w) A.in1 (eqBool (.int i t) (.int j u)) Q E ⟨hp, g, d, tk, os⟩ := fun Q E q => by
      have z := EqAt.int_int (A := A.in1) (s := ⟨hp, g, d, tk, os⟩) i t j u
      rw [beq_eq_false_iff_ne.mpr hne] at z
      exact z prog w E Q q
    have hlt : ∀ (Q : Value → Shared → Prop) (E : Value → Shared → Prop), Q (.bool (decide (i < j))) ⟨hp, g, d, tk, os⟩ → wpAny (model prog w) A.in1 (richCompare .Lt (.int i t) (.int j u)) Q E ⟨hp, g, d, tk, os⟩ := fun Q E q =>
      richCompare_gives (typeIs_int _ i t) (typeIs_int _ j u) F.slot_int_lt F.entry_int_lt (F.args_int_lt_2 _ _) (gives_int_lt i j t u) (fun x => nomatch x) q
    wp_walk using wpAny_loadPart' hl, wpAny_loadPart' hb, he _ _, hlt _ _
    exact ⟨_, rfl, h⟩
section
variable {prog : Program} {w : World} {A : Around} {E : Value → Shared → Prop} {s : Shared}
theorem lt_tup {l b : Addr} {i j : Int} {t u : Tok} {v v2 : Value} {Q : Value → Shared → Prop} (hl : s.heap.IsTuple l #[.int i t, v]) (hb : s.heap.IsTuple b #[.int j u, v2]) (hu : A.units < cLine) (hne : i ≠ j) (h : Q (.bool (decide (i < j))) s) :
    wpAny (model prog w) A (richCompare .Lt (.ref l) (.ref b)) Q E s := by
  obtain ⟨⟨cls, dd, data, sl⟩, ho, hc, n, hd⟩ := id hl
  obtain ⟨⟨cls2, dd2, data2, sl2⟩, ho2, hc2, n2, hd2⟩ := id hb
  simp only at hc hd hc2 hd2
  subst hc hd hc2 hd2
  exact richCompare_meets_room (op := .Lt) ⟨_, ho, rfl⟩ ⟨_, ho2, rfl⟩ F.slot_tuple_lt F.entry_tuple_lt (F.args_tuple_lt_2 _ _) (tuple_ltAt l b n n2 dd dd2 sl sl2 hne) ⟨ho, ho2, show Value.bool (decide (i < j)) ≠ Value.notImplemented ∧ Q (.bool (decide (i < j))) s from ⟨(fun x => nomatch x), h⟩⟩ hu
end
end Mine
end
section
open PySem PySem.W PyProof.Rows PySem.Calls PySem.SeqAt
set_option maxRecDepth 100000
namespace Mine
section
variable {prog : Program} {w : World} {A : Around} {E : Value → Shared → Prop} {s : Shared} {h₀ : Heap} {L : Addr} {news : List (Addr × Obj)} {Q : Value → Shared → Prop}
/-- a list against an empty one -/
theorem ne_nil {R1 R2 : Addr} {ys : List Value} {c1 c2 : Nat} (N : News h₀ L s.heap news) (m1 : (R1, W.listOf ys.toArray c1) ∈ news) (m2 : (R2, W.listOf #[] c2) ∈ news)
  (hu : A.units < cLine) (h : Q (.bool (!ys.isEmpty)) s) : wpAny (model prog w) A (compareOp .NotEq (.ref R1) (.ref R2)) Q E s := by
  cases ys with
  | nil =>
    have q := RcNeAt.lists (A := A) (s := s) (l := R1) (b := R2) (e := fun _ => true) ⟨_, (N _ m1).1, rfl, _, rfl⟩ ⟨_, (N _ m2).1, rfl, _, rfl⟩ rfl hu (fun j h1 => absurd h1 (Nat.not_lt_zero _))
    exact q prog w E Q h
  | cons y ys =>
    exact richCompare_meets_room (op := .NotEq) ⟨_, (N _ m1).1, rfl⟩ ⟨_, (N _ m2).1, rfl⟩ PySem.F.slot_list_ne PySem.F.entry_list_ne (PySem.F.args_list_ne_2 _ _) (list_ne_lengthsAt R1 R2 (y :: ys).toArray #[] c1 c2 none none #[] #[] (by simp)) ⟨(N _ m1).1, (N _ m2).1, show Value.bool true ≠ Value.notImplemented ∧ Q (.bool true) s from ⟨(fun x => nomatch x), h⟩⟩ hu
end
end Mine
end
section
open PySem PySem.W PyProof.Rows PySem.Calls
set_option maxRecDepth 100000
namespace Mine
section
variable {M : Model} {A : Around} {E : Value → Shared → Prop} {s : Shared} {env : Env}
/-- an expression as a statement, at stacks that bear the caller -/
theorem wpC_Expr {e : Expr} {pos : Pos} {Q : Flow → Shared → Prop} (h : wpC M A (eval e env) (fun v s' => match v with | .ref _ => False | _ => Q .next s') E s)
    (hi : interactive env = false := by rfl) (hs : swapsWith e none pos.line env = pure false := by rfl) :
    wpC M A (exec (.Expr e pos) env) Q E s := by
  rw [exec_Expr env e pos hi hs]
  refine wpC_standAt (wpC_bind (wpC_mono h (fun v s' h' => ?_) fun _ _ x => x))
  have hv : ∀ a, v ≠ .ref a := fun a hva => by subst hva; exact h'
  rw [dropValue_plain hv]
  refine wpC_pure ?_
  cases v <;> first | exact h' | exact (hv _ rfl).elim
theorem wpC_spliced_last {x : Sem Value} {Q : List Value → Shared → Prop} (h : wpC M A x (fun v s' => Q [v] s') E s) : wpC M A (spliced [(false, x)]) Q E s := by
  unfold spliced
  refine wpC_bind (wpC_mono h (fun v s' h' => ?_) fun _ _ e => e)
  exact wpC_any (wpAny_bind (wpAny_pure (wpAny_bind (wpAny_holding (Calls.spliced_nil (wpAny_pure h'))))))
theorem wpC_spliced_two {x y : Sem Value} {Q : List Value → Shared → Prop} (h : wpAny M A x (fun v s' => wpC M A y (fun u s'' => Q [v, u] s'') E s') E s) : wpC M A (spliced [(false, x), (false, y)]) Q E s := by
  unfold spliced
  refine wpC_bindA (wpAny_mono h (fun v s' h' => ?_) fun _ _ e => e)
  refine wpC_bindA (wpAny_pure ?_)
  exact wpC_bind (wpC_holding (wpC_spliced_last (wpC_mono h' (fun u s'' q => wpC_pure q) fun _ _ e => e)))
theorem wpC_Tuple {elts : List Expr} {k : Nat} {pos : Pos} {Q : Value → Shared → Prop}
    (h : wpC M A (spliced (backTo pos (starEach elts env))) (fun vs s₁ => vs.length ≤ sizeLine ∧ Q (.ref s₁.heap.objs.size) { s₁ with heap := s₁.heap.push { cls := .type "tuple", data := .seq vs.toArray } }) E s) :
    wpC M A (eval (.Tuple elts k pos) env) Q E s := by
  rw [arm_eval_Tuple]
  exact wpC_standAt (wpC_bind (wpC_mono h (fun vs s₁ h₁ => wpC_any (wpAny_newObj_type h₁.2 (by show vs.toArray.size ≤ sizeLine; rw [List.size_toArray]; exact h₁.1))) fun _ _ x => x))
theorem wpC_callWith_builtin1 {pos : Pos} {id : String} {first : List Value} {x : Sem Value} {Q : Value → Shared → Prop}
    (h : wpC M A x (fun v s₁ => wpAny M A (call (.builtin id) (first ++ [v])) Q E s₁) E s) : wpC M A (callWith pos (.builtin id) first [(false, x)] []) Q E s := by
  unfold callWith
  have ev : wpC M A (evalArgs (.builtin id) true [(false, x)] []) (fun a s₁ => wpAny M A (call (.builtin id) (first ++ a.pos) a.kw) Q E s₁) E s := by
    have h2 : wpC M A (spliced [(false, x)]) (fun vs s₁ => wpAny M A (call (.builtin id) (first ++ vs)) Q E s₁) E s := wpC_spliced_last h
    unfold evalArgs
    show wpC M A (spliced [(false, x)] >>= _) _ E s
    refine wpC_bind (wpC_mono h2 (fun vs s' h' => ?_) fun _ _ x => x)
    exact wpC_any (wpAny_bind (wpAny_pure (wpAny_holding (wpAny_bind (wpAny_pure (wpAny_bind (wpAny_pure (wpAny_pure h'))))))))
  refine wpC_bind (wpC_holding (wpC_mono ev (fun a s₁ h₁ => wpC_standAt ?_) fun _ _ x => x))
  refine wpC_bindA (wpAny_pure ?_)
  exact wpC_any (wpAny_bind (wpAny_mono h₁ (fun r s₂ hr => wpAny_bind (wpAny_holding (wpAny_point (wpAny_pure hr)))) fun _ _ x => x))
end
section
variable {prog : Program} {w : World} {A : Around} {E : Value → Shared → Prop} {s : Shared} {env : Env}
theorem wpC_Call_method {o : Expr} {name : Str} {apos pos : Pos} {args : List Expr} {T id : String} {Q : Value → Shared → Prop}
    (hbase : attributeBase o name env (eval o env) = eval o env)
    (hfew : ((backTo pos (starEach args env)).all (fun x => !x.1) && (backToKw pos (keywordEach [] env)).all (fun x => x.1.isSome)
      && decide (args.length + ([] : List Keyword).length + (if ([] : List Keyword).isEmpty then 0 else 1) < 30)) = true)
    (hline : (apos.endLine == pos.line) = true)
    (pa : PlainAttrs T) (slot : Slot T name id) (hty : typeOf (.builtin id) = pure (.type "method_descriptor"))
    (h : wpAny (model prog w) A (eval o env) (fun ov s₁ => s₁.TypeIs ov T ∧ (∀ a, ov = .ref a → ∃ ob, s₁.heap.get? a = some ob ∧ ob.dict = none) ∧
      wpC (model prog w) A (callWith pos (.builtin id) [ov] (backTo pos (starEach args env)) []) Q E s₁) E s) :
    wpC (model prog w) A (eval (.Call (.Attribute o name apos) args [] pos) env) Q E s := by
  rw [arm_eval_Call, hbase]
  refine wpC_bindA (wpAny_mono h (fun ov s₁ h₁ => ?_) fun _ _ e => e)
  obtain ⟨hT, hd, hc⟩ := h₁
  refine wpC_standAt ?_
  have hform : methodCallForm (args.length + ([] : List Keyword).length) (backTo pos (starEach args env)) (backToKw pos (keywordEach [] env)) = true := hfew
  have hpos : methodCallPos true o env apos pos = pure pos := by unfold methodCallPos; simp [hline]
  unfold methodCall
  rw [hform]
  refine wpC_bindA (wpAny_holding (getMethod_builtin hT pa slot hty hd ?_))
  exact wpC_bindA (wpAny_of_eq hpos hc)
theorem wpC_method1 {o e : Expr} {name : Str} {apos pos : Pos} {T id : String} {Q : Value → Shared → Prop}
    (hbase : attributeBase o name env (eval o env) = eval o env)
    (hfew : ((backTo pos (starEach [e] env)).all (fun x => !x.1) && (backToKw pos (keywordEach [] env)).all (fun x => x.1.isSome)
      && decide ([e].length + ([] : List Keyword).length + (if ([] : List Keyword).isEmpty then 0 else 1) < 30)) = true)
    (hline : (apos.endLine == pos.line) = true)
    (pa : PlainAttrs T) (slot : Slot T name id) (hty : typeOf (.builtin id) = pure (.type "method_descriptor"))
    (h : wpAny (model prog w) A (eval o env) (fun ov s₁ => (s₁.TypeIs ov T ∧ (∀ a, ov = .ref a → ∃ ob, s₁.heap.get? a = some ob ∧ ob.dict = none)) ∧
      wpC (model prog w) A (eval e env) (fun v s₂ => wpAny (model prog w) A (call (.builtin id) [ov, v]) Q E s₂) E s₁) E s)
    (he : backTo pos (starEach [e] env) = [(false, eval e env)] := by rfl) :
    wpC (model prog w) A (eval (.Call (.Attribute o name apos) [e] [] pos) env) Q E s := by
  refine wpC_Call_method hbase hfew hline pa slot hty (wpAny_mono h (fun ov s₁ q => ⟨q.1.1, q.1.2, ?_⟩) fun _ _ e => e)
  rw [he]
  exact wpC_callWith_builtin1 q.2
theorem wpC_Tuple2 {e1 e2 : Expr} {k : Nat} {pos : Pos} {Q : Value → Shared → Prop}
    (h : wpAny (model prog w) A (eval e1 env) (fun v s' => wpC (model prog w) A (eval e2 env) (fun u s₁ => Q (.ref s₁.heap.objs.size) { s₁ with heap := s₁.heap.push { cls := .type "tuple", data := .seq #[v, u] } }) E s') E s)
    (he : backTo pos (starEach [e1, e2] env) = [(false, eval e1 env), (false, eval e2 env)] := by rfl) : wpC (model prog w) A (eval (.Tuple [e1, e2] k pos) env) Q E s := by
  refine wpC_Tuple ?_
  rw [he]
  exact wpC_spliced_two (wpAny_mono h (fun v s' q => wpC_mono q (fun u s₁ q => ⟨(by decide : 2 ≤ sizeLine), q⟩) fun _ _ e => e) fun _ _ e => e)
end
end Mine
end
section
open PySem PySem.W PyProof.Rows PySem.Calls PySem.Builtin PySem.Builtin.Str PySem.NumText
set_option maxRecDepth 100000
set_option maxHeartbeats 2000000
namespace Mine
theorem sl_len {x : PySem.Str} {i j : Int} (h0 : 0 ≤ i) (h1 : 0 ≤ j) : (Txt.slice x (some i) (some j)).length = min j.toNat x.length - i.toNat := by
  rw [sl_ss h0 h1]
  show ((List.take j.toNat x.cps.toList).drop i.toNat).toArray.size = _
  rw [List.size_toArray, List.length_drop, List.length_take]
  rfl
theorem pair_len_eq {x : PySem.Str} {p : Int} (h : 0 ≤ p) : (pairS x p).length = min (p + 2).toNat x.length - p.toNat := sl_len h (by omega)
theorem next_len {x : PySem.Str} {p : Int} (h : 0 ≤ p) : (nextS x p).length = min (p + 1).toNat x.length - p.toNat := sl_len h (by omega)
theorem mark_len (x : PySem.Str) : (markS x).length = min (2 * stepD x + 3).toNat x.length - (2 * stepD x + 2).toNat := by
  have := stepD_or x
  exact sl_len (by omega) (by omega)
theorem fig_len (x : PySem.Str) : (figS x).length = x.length - (2 * stepD x + 3).toNat := by
  have := stepD_or x
  unfold figS
  rw [sl_sn (by omega)]
  show (List.drop (2 * stepD x + 3).toNat x.cps.toList).toArray.size = _
  rw [List.size_toArray, List.length_drop]
  rfl
theorem len_zero {y : PySem.Str} (h : y.length = 0) : y = PySem.Str.ofString "" := by
  obtain ⟨a⟩ := y
  have : a = #[] := Array.eq_empty_of_size_eq_zero h
  subst this
  rfl
/-- a pair is a number of two signs -/
def GoodP (x : PySem.Str) (i : Nat) : Prop := (pairS x ((i : Int) * stepD x)).length = 2 ∧ ∃ v, PySem.intText? (pairS x ((i : Int) * stepD x)) = some v
section
variable {x : PySem.Str}
theorem mem_first {q : Int × PySem.Str} (h : q ∈ faultsD x) : (∃ i : Nat, i < nB x ∧ q.1 = (i : Int) * stepD x ∧ ¬ GoodP x i) ∨ q ∈ faults3 x ∨ q ∈ faults4 x := by
  unfold faultsD at h
  rcases List.mem_append.mp h with h | h
  · rcases List.mem_append.mp h with h | h
    · refine .inl ?_
      rcases List.mem_append.mp h with h | h
      all_goals
        obtain ⟨k, hk, rfl⟩ := List.mem_map.mp h
        obtain ⟨hk1, hk2⟩ := List.mem_filter.mp hk
        rw [beg_upto] at hk1
        obtain ⟨i, hi⟩ := List.getElem?_of_mem hk1
        obtain ⟨rfl, hlt⟩ := upto_get hi
        refine ⟨i, hlt, rfl, fun g => ?_⟩
        obtain ⟨g1, v, g2⟩ := g
      · have := of_decide_eq_true hk2
        rw [g1] at this
        omega
      · rw [Bool.and_eq_true] at hk2
        have := hk2.2
        unfold badS at this
        rw [g2] at this
        cases this
    · exact .inr (.inl h)
  · exact .inr (.inr h)
theorem beg_mem {i : Nat} (hi : i < nB x) : (i : Int) ∈ (upto 3).filter (begQ x) := by
  rw [beg_upto]
  exact List.mem_of_getElem? (upto_at hi)
theorem f1_mem {i : Nat} (hi : i < nB x) (hl : (pairS x ((i : Int) * stepD x)).length < 2) : ((i : Int) * stepD x, PySem.Str.ofString "Incomplete time component") ∈ faultsD x :=
  List.mem_append_left _ (List.mem_append_left _ (List.mem_append_left _ (List.mem_map.mpr ⟨(i : Int), List.mem_filter.mpr ⟨beg_mem hi, decide_eq_true (by omega)⟩, rfl⟩)))
theorem f2_mem {i : Nat} (hi : i < nB x) (hl : (pairS x ((i : Int) * stepD x)).length = 2) (hn : PySem.intText? (pairS x ((i : Int) * stepD x)) = none) : ((i : Int) * stepD x, refusedText (pairS x ((i : Int) * stepD x))) ∈ faultsD x :=
  List.mem_append_left _ (List.mem_append_left _ (List.mem_append_right _ (List.mem_map.mpr ⟨(i : Int), List.mem_filter.mpr ⟨beg_mem hi, by
    rw [decide_eq_true (show ((pairS x ((i : Int) * stepD x)).length : Int) = 2 by omega)]
    unfold badS
    rw [hn]
    rfl⟩, rfl⟩)))
theorem f3_mem {q : Int × PySem.Str} (h : q ∈ faults3 x) : q ∈ faultsD x := List.mem_append_left _ (List.mem_append_right _ h)
theorem f4_mem {q : Int × PySem.Str} (h : q ∈ faults4 x) : q ∈ faultsD x := List.mem_append_right _ h
theorem f4_place {q : Int × PySem.Str} (h : q ∈ faults4 x) : 2 * stepD x + 2 ≤ q.1 := by
  unfold faults4 at h
  split at h
  · rw [List.mem_singleton.mp h]
    exact Int.le_refl _
  · split at h
    · rw [List.mem_singleton.mp h]
      show 2 * stepD x + 2 ≤ 2 * stepD x + 3
      omega
    · split at h
      · rw [List.mem_singleton.mp h]
        show 2 * stepD x + 2 ≤ 2 * stepD x + 3
        omega
      · cases h
theorem f3_place {q : Int × PySem.Str} (h : q ∈ faults3 x) : stepD x = 3 ∧ 5 < (x.length : Int) ∧ (Txt.item x 5 == PySem.Str.ofString ":") = false ∧ q.1 = 5 := by
  unfold faults3 at h
  split at h
  · rename_i c
    rw [List.mem_singleton.mp h]
    exact ⟨c.1, c.2.1, c.2.2, rfl⟩
  · cases h
/-- with the first j pairs good, no fault lies before the place of the next -/
theorem min_pair {j : Nat} (hj : j ≤ 2) (hg : ∀ i : Nat, i < j → GoodP x i) (h3 : j = 2 → faults3 x = []) : ∀ q ∈ faultsD x, (j : Int) * stepD x ≤ q.1 := fun q hq => by
  have hst := stepD_or x
  rcases mem_first hq with ⟨i, _, e, hb⟩ | h | h
  · rw [e]
    have : j ≤ i := Nat.le_of_not_lt fun hlt => hb (hg i hlt)
    exact Int.mul_le_mul_of_nonneg_right (by omega) (by omega)
  · have := f3_place h
    have : j ≠ 2 := fun e => by
      rw [h3 e] at h
      cases h
    have hj' : j = 0 ∨ j = 1 := by omega
    rcases hj' with rfl | rfl <;> omega
  · have := f4_place h
    have hj' : j = 0 ∨ j = 1 ∨ j = 2 := by omega
    rcases hj' with rfl | rfl | rfl <;> omega
theorem f4_none (hl : (x.length : Int) ≤ 2 * stepD x + 2) : faults4 x = [] := by
  have hst := stepD_or x
  have hm : markS x = PySem.Str.ofString "" := len_zero (by rw [mark_len]; omega)
  have hf : figS x = PySem.Str.ofString "" := len_zero (by rw [fig_len]; omega)
  unfold faults4 markQ
  rw [hm, hf, if_neg (by decide +kernel), if_neg (by decide +kernel), if_neg (fun z => absurd z.1 (by decide +kernel))]
theorem no_first (hg : ∀ i : Nat, i < nB x → GoodP x i) (h3 : faults3 x = []) (h4 : faults4 x = []) : faultsD x = [] := by
  refine List.eq_nil_iff_forall_not_mem.mpr fun q hq => ?_
  rcases mem_first hq with ⟨i, hi, _, hb⟩ | h | h
  · exact hb (hg i hi)
  · rw [h3] at h
    cases h
  · rw [h4] at h
    cases h
theorem item_next {p : Int} (h0 : 0 ≤ p) (h1 : p < x.length) : Txt.item x p = nextS x p := by
  have hl : x.cps.toList.length = x.length := Array.length_toList
  have hp : p.toNat < x.cps.toList.length := by omega
  have hp' : p.toNat < x.cps.size := by
    rw [← Array.length_toList]
    exact hp
  have e1 : nextS x p = ⟨#[x.cps[p.toNat]]⟩ := by
    unfold nextS
    rw [sl_ss h0 (by omega)]
    have e : List.drop p.toNat (List.take (p + 1).toNat x.cps.toList) = [x.cps[p.toNat]] := by
      apply List.ext_getElem?
      intro k
      rw [List.getElem?_drop, List.getElem?_take]
      cases k with
      | zero =>
        rw [if_pos (by omega)]
        simp [hp']
      | succ k =>
        rw [if_neg (by omega)]
        rfl
    rw [e]
  have e2 : Txt.charAt x p = some x.cps[p.toNat] := by
    unfold Txt.charAt
    have : seqIndex? p x.length = some p.toNat := by
      simp only [seqIndex?]
      rw [if_neg (show ¬ p < 0 by omega), if_pos]
      simp only [Bool.and_eq_true, decide_eq_true_eq]
      omega
    rw [this]
    simp [hp']
  rw [e1]
  unfold Txt.item
  rw [e2]
  rfl
end
end Mine
end
section
open PySem PySem.W PyProof.Rows PySem.Calls PySem.Builtin PySem.Builtin.Str PySem.NumText
set_option maxRecDepth 100000
set_option maxHeartbeats 4000000
namespace Mine
abbrev sC : PySem.Str := PySem.Str.ofString ":"
theorem mark_iff (c : Nat) : (occurrences (PySem.Str.ofString ".,") ⟨#[c]⟩ 0 (PySem.Str.length (PySem.Str.ofString ".,")) 1).isEmpty = !([PySem.Str.ofString "", PySem.Str.ofString ".", PySem.Str.ofString ","].any fun y => y == (⟨#[c]⟩ : PySem.Str)) := by
  have e := StrLaws.found_one (PySem.Str.ofString ".,") c
  have el : (PySem.Str.ofString ".,").cps.toList = [46, 44] := by decide +kernel
  rw [el] at e
  have e2 : ([PySem.Str.ofString "", PySem.Str.ofString ".", PySem.Str.ofString ","].any fun y => y == (⟨#[c]⟩ : PySem.Str)) = decide (c ∈ [46, 44]) := by
    have a0 : PySem.Str.ofString "" = ⟨#[]⟩ := by decide +kernel
    have a1 : PySem.Str.ofString "." = ⟨#[46]⟩ := by decide +kernel
    have a2 : PySem.Str.ofString "," = ⟨#[44]⟩ := by decide +kernel
    rw [a0, a1, a2, Bool.eq_iff_iff, List.any_eq_true, decide_eq_true_eq]
    constructor
    · rintro ⟨y, hy, he⟩
      have he' := eq_of_beq he
      subst he'
      simp only [List.mem_cons, List.not_mem_nil, or_false] at hy
      rcases hy with h | h | h
      · injection h with h
        exact absurd (congrArg Array.size h) (by simp)
      · injection h with h
        have := congrArg (fun a : Array Nat => a[0]?) h
        simp at this
        simp [this]
      · injection h with h
        have := congrArg (fun a : Array Nat => a[0]?) h
        simp at this
        simp [this]
    · intro h
      refine ⟨⟨#[c]⟩, ?_, by simp⟩
      simp only [List.mem_cons, List.not_mem_nil, or_false] at h
      rcases h with rfl | rfl <;> simp
  rw [e2, ← e, Bool.not_not]
theorem digits_pad : ∀ (l : List Nat), 1 ≤ l.length → l.length ≤ 5 → (digitsVal l : Int) * fcP (l.length : Int) = ((digitsVal ((l ++ [48, 48, 48, 48, 48, 48]).take 6) : Nat) : Int)
  | [], h, _ => absurd h (by decide)
  | [a], _, _ => by
    show ((digitsVal [a] : Nat) : Int) * 100000 = ((digitsVal [a, 48, 48, 48, 48, 48] : Nat) : Int)
    simp only [digitsVal, List.foldl_cons, List.foldl_nil]
    omega
  | [a, b], _, _ => by
    show ((digitsVal [a, b] : Nat) : Int) * 10000 = ((digitsVal [a, b, 48, 48, 48, 48] : Nat) : Int)
    simp only [digitsVal, List.foldl_cons, List.foldl_nil]
    omega
  | [a, b, c], _, _ => by
    show ((digitsVal [a, b, c] : Nat) : Int) * 1000 = ((digitsVal [a, b, c, 48, 48, 48] : Nat) : Int)
    simp only [digitsVal, List.foldl_cons, List.foldl_nil]
    omega
  | [a, b, c, d], _, _ => by
    show ((digitsVal [a, b, c, d] : Nat) : Int) * 100 = ((digitsVal [a, b, c, d, 48, 48] : Nat) : Int)
    simp only [digitsVal, List.foldl_cons, List.foldl_nil]
    omega
  | [a, b, c, d, e], _, _ => by
    show ((digitsVal [a, b, c, d, e] : Nat) : Int) * 10 = ((digitsVal [a, b, c, d, e, 48] : Nat) : Int)
    simp only [digitsVal, List.foldl_cons, List.foldl_nil]
    omega
  | _ :: _ :: _ :: _ :: _ :: _ :: _, _, h => by
    simp only [List.length_cons] at h
    omega
theorem cut_part (l : List Nat) {a b c : Nat} (h1 : a = c) (h2 : b = c + 6) : (l.take b).drop a = (l.drop c).take 6 := by
  subst h1 h2
  rw [List.drop_take]
  congr 1
  omega
/-- the three numbers of a clock -/
def threeD (x : PySem.Str) : List Int := ((((upto 3).filter (begQ x)).map fun k => (PySem.intText? (pairS x (k * stepD x))).getD 0) ++ [0, 0]).take 3
def sixD (x : PySem.Str) : Option Int := PySem.intText? (Txt.slice (figS x ++ PySem.Str.ofString "000000") none (some 6))
section
variable {x : PySem.Str}
theorem six_empty (h : figS x = PySem.Str.ofString "") : sixD x = some 0 := by
  unfold sixD
  rw [h]
  decide +kernel
/-- the tail of a clock without a fault -/
theorem tail_ok {c0 c1 c2 f : Int} (hp : 2 * stepD x + 2 < (x.length : Int)) (hm : markQ x = true) (hdg : (figS x).cps.toList.all digQ = true) (h1 : 2 * stepD x + 3 < (x.length : Int)) (hf : sixD x = some f) : tailP x (2 * stepD x + 2) c0 c1 c2 = .ok [c0, c1, c2, f] := by
  have hst := stepD_or x
  have hl : x.cps.toList.length = x.length := Array.length_toList
  have e3 : 2 * stepD x + 2 + 1 = 2 * stepD x + 3 := by omega
  have hit : Txt.item x (2 * stepD x + 2) = markS x := by
    rw [item_next (by omega) hp]
    unfold nextS markS
    rw [e3]
  obtain ⟨c, hc⟩ : ∃ c, nextS x (2 * stepD x + 2) = ⟨#[c]⟩ := next_one (by omega) (by rw [next_len (by omega)]; omega)
  have hmc : markS x = ⟨#[c]⟩ := by
    rw [← hc]
    unfold nextS markS
    rw [e3]
  have hocc : (occurrences (PySem.Str.ofString ".,") (Txt.item x (2 * stepD x + 2)) 0 (PySem.Str.length (PySem.Str.ofString ".,")) 1).isEmpty = false := by
    rw [hit, hmc, mark_iff]
    unfold markQ at hm
    rw [hmc] at hm
    rw [hm]
    rfl
  have hfg : Txt.slice x (some (2 * stepD x + 2 + 1)) none = figS x := by
    unfold figS
    rw [e3]
  obtain ⟨l, hll⟩ : ∃ l, l = (figS x).cps.toList := ⟨_, rfl⟩
  have hld : l = x.cps.toList.drop (2 * stepD x + 3).toNat := by
    rw [hll]
    unfold figS
    rw [sl_sn (by omega)]
  have hdig : ∀ c ∈ l, D1 c := fun c hc => digQ_D1 (List.all_eq_true.mp hdg c (hll ▸ hc))
  have hlen : l.length = x.length - (2 * stepD x + 3).toNat := by rw [hld, List.length_drop, hl]
  have hv := six_some hdg
  rw [← hll] at hv
  have hfv : f = ((digitsVal ((l ++ [48, 48, 48, 48, 48, 48]).take 6) : Nat) : Int) := by
    unfold sixD at hf
    rw [hv] at hf
    exact (Option.some.inj hf).symm
  by_cases h6 : 6 ≤ (x.length : Int) - (2 * stepD x + 2 + 1)
  · rw [tail_six hp hocc (by rw [hfg]; exact hdg) h6]
    have es : Txt.slice x (some (2 * stepD x + 2 + 1)) (some (2 * stepD x + 2 + 1 + 6)) = ⟨(l.take 6).toArray⟩ := by
      rw [sl_ss (by omega) (by omega), hld, cut_part _ (show (2 * stepD x + 2 + 1).toNat = (2 * stepD x + 3).toNat by omega) (show (2 * stepD x + 2 + 1 + 6).toNat = (2 * stepD x + 3).toNat + 6 by omega)]
    have hi := digs_some es (fun c hc => hdig c (List.mem_of_mem_take hc)) (fun e => by
      have := congrArg List.length e
      rw [List.length_take, List.length_nil] at this
      omega) (by rw [List.length_take]; exact Nat.le_trans (Nat.min_le_left _ _) (by decide))
    rw [hi, hfv]
    show Except.ok [c0, c1, c2, _ * 1] = _
    rw [Int.mul_one, List.take_append_of_le_length (by omega)]
  · rw [tail_few (rem := (x.length : Int) - (2 * stepD x + 2 + 1)) hp hocc (by rw [hfg]; exact hdg) h6 rfl]
    have es : Txt.slice x (some (2 * stepD x + 2 + 1)) (some (2 * stepD x + 2 + 1 + ((x.length : Int) - (2 * stepD x + 2 + 1)))) = ⟨l.toArray⟩ := by
      rw [sl_ss (by omega) (by omega), hld, List.take_of_length_le (by omega), show (2 * stepD x + 2 + 1).toNat = (2 * stepD x + 3).toNat by omega]
    have hi := digs_some es hdig (fun e => by
      have := congrArg List.length e
      rw [List.length_nil] at this
      omega) (by omega)
    rw [hi, hfv]
    show Except.ok [c0, c1, c2, _ * _] = _
    have hp2 := digits_pad l (by omega) (by omega)
    rw [show (x.length : Int) - (2 * stepD x + 2 + 1) = (l.length : Int) by omega, hp2]
end
end Mine
end
section
open PySem PySem.W PyProof.Rows PySem.Calls PySem.Builtin PySem.Builtin.Str PySem.NumText
set_option maxRecDepth 100000
set_option maxHeartbeats 4000000
namespace Mine
section
variable {x : PySem.Str}
theorem f3_none (h : ¬ (stepD x = 3 ∧ 5 < (x.length : Int) ∧ (Txt.item x 5 == sC) = false)) : faults3 x = [] := by
  unfold faults3
  exact if_neg h
theorem three1 {v0 : Int} (hn : nB x = 1) (h0 : PySem.intText? (pairS x ((0 : Int) * stepD x)) = some v0) : threeD x = [v0, 0, 0] := by
  unfold threeD
  rw [beg_upto, hn]
  show ([(PySem.intText? (pairS x ((0 : Int) * stepD x))).getD 0] ++ [0, 0]).take 3 = _
  rw [h0]
  rfl
theorem three2 {v0 v1 : Int} (hn : nB x = 2) (h0 : PySem.intText? (pairS x ((0 : Int) * stepD x)) = some v0) (h1 : PySem.intText? (pairS x ((1 : Int) * stepD x)) = some v1) : threeD x = [v0, v1, 0] := by
  unfold threeD
  rw [beg_upto, hn]
  show ([(PySem.intText? (pairS x ((0 : Int) * stepD x))).getD 0, (PySem.intText? (pairS x ((1 : Int) * stepD x))).getD 0] ++ [0, 0]).take 3 = _
  rw [h0, h1]
  rfl
theorem three3 {v0 v1 v2 : Int} (hn : nB x = 3) (h0 : PySem.intText? (pairS x ((0 : Int) * stepD x)) = some v0) (h1 : PySem.intText? (pairS x ((1 : Int) * stepD x)) = some v1) (h2 : PySem.intText? (pairS x ((2 : Int) * stepD x)) = some v2) : threeD x = [v0, v1, v2] := by
  unfold threeD
  rw [beg_upto, hn]
  show ([(PySem.intText? (pairS x ((0 : Int) * stepD x))).getD 0, (PySem.intText? (pairS x ((1 : Int) * stepD x))).getD 0, (PySem.intText? (pairS x ((2 : Int) * stepD x))).getD 0] ++ [0, 0]).take 3 = _
  rw [h0, h1, h2]
  rfl
def ErrD (x : PySem.Str) : Prop := ∃ k msg, parseP x = .error msg ∧ (k, msg) ∈ faultsD x ∧ ∀ q ∈ faultsD x, k ≤ q.1
def OkD (x : PySem.Str) : Prop := faultsD x = [] ∧ ∀ a b d f, threeD x = [a, b, d] → sixD x = some f → parseP x = .ok [a, b, d, f]
theorem good0 {i : Nat} {P : Nat → Prop} (h0 : P 0) (hi : i < 1) : P i := by
  obtain rfl : i = 0 := by omega
  exact h0
theorem good1 {i : Nat} {P : Nat → Prop} (h0 : P 0) (h1 : P 1) (hi : i < 2) : P i := by
  have : i = 0 ∨ i = 1 := by omega
  rcases this with rfl | rfl
  · exact h0
  · exact h1
theorem good2 {i : Nat} {P : Nat → Prop} (h0 : P 0) (h1 : P 1) (h2 : P 2) (hi : i < 3) : P i := by
  have : i = 0 ∨ i = 1 ∨ i = 2 := by omega
  rcases this with rfl | rfl | rfl
  · exact h0
  · exact h1
  · exact h2
theorem three_inj {a b c a' b' c' : Int} (h : [a, b, c] = [a', b', c']) : a = a' ∧ b = b' ∧ c = c' := by
  simp only [List.cons.injEq, and_true] at h
  exact h
/-- behind three good pairs -/
theorem tail_spec {v0 v1 v2 : Int} (hn : nB x = 3) (g0 : GoodP x 0) (g1 : GoodP x 1) (g2 : GoodP x 2) (h3 : faults3 x = []) (ht : threeD x = [v0, v1, v2]) (hp : parseP x = tailP x (2 * stepD x + 2) v0 v1 v2) : ErrD x ∨ OkD x := by
  have hst := stepD_or x
  have hg : ∀ i : Nat, i < nB x → GoodP x i := fun i hi => good2 g0 g1 g2 (by rw [← hn]; exact hi)
  have minf : ∀ k : Int, (∀ q ∈ faults4 x, k ≤ q.1) → ∀ q ∈ faultsD x, k ≤ q.1 := fun k h4 q hq => by
    rcases mem_first hq with ⟨i, hi, _, hb⟩ | h | h
    · exact absurd (hg i hi) hb
    · rw [h3] at h
      cases h
    · exact h4 q h
  have okc : faults4 x = [] → (∀ a b d f, threeD x = [a, b, d] → sixD x = some f → parseP x = .ok [a, b, d, f]) → ErrD x ∨ OkD x := fun h4 h => .inr ⟨no_first hg h3 h4, h⟩
  by_cases c7 : (x.length : Int) ≤ 2 * stepD x + 2
  · refine okc (f4_none c7) fun a b d f e1 e2 => ?_
    have hf : figS x = PySem.Str.ofString "" := len_zero (by rw [fig_len]; omega)
    rw [six_empty hf] at e2
    obtain ⟨a1, a2, a3⟩ := three_inj (ht.symm.trans e1)
    rw [hp, tail_end (by omega), a1, a2, a3, Option.some.inj e2]
  · have hlt : 2 * stepD x + 2 < (x.length : Int) := by omega
    have e3 : 2 * stepD x + 2 + 1 = 2 * stepD x + 3 := by omega
    obtain ⟨c, hc⟩ : ∃ c, nextS x (2 * stepD x + 2) = ⟨#[c]⟩ := next_one (by omega) (by rw [next_len (by omega)]; omega)
    have hmk : markS x = nextS x (2 * stepD x + 2) := by
      unfold nextS markS
      rw [e3]
    have hit : Txt.item x (2 * stepD x + 2) = ⟨#[c]⟩ := by rw [item_next (by omega) hlt, hc]
    have hocc : (occurrences (PySem.Str.ofString ".,") (Txt.item x (2 * stepD x + 2)) 0 (PySem.Str.length (PySem.Str.ofString ".,")) 1).isEmpty = !(markQ x) := by
      rw [hit, mark_iff]
      unfold markQ
      rw [hmk, hc]
    have hfg : Txt.slice x (some (2 * stepD x + 2 + 1)) none = figS x := by
      unfold figS
      rw [e3]
    cases hmq : markQ x with
    | false =>
      rw [hmq] at hocc
      have h4 : faults4 x = [(2 * stepD x + 2, PySem.Str.ofString "Invalid microsecond component")] := by
        unfold faults4
        exact if_pos hmq
      refine .inl ⟨_, _, hp.trans (tail_mark hlt hocc), f4_mem (by rw [h4]; exact .head _), minf _ fun q hq => ?_⟩
      rw [h4] at hq
      rw [List.mem_singleton.mp hq]
      exact Int.le_refl _
    | true =>
      rw [hmq] at hocc
      have hmn : ¬ markQ x = false := by rw [hmq]; decide
      cases hdg : (figS x).cps.toList.all digQ with
      | false =>
        have h4 : faults4 x = [(2 * stepD x + 3, PySem.Str.ofString "Non-digit values in fraction")] := by
          unfold faults4
          exact (if_neg hmn).trans (if_pos hdg)
        refine .inl ⟨_, _, hp.trans (tail_digit hlt hocc (by rw [hfg]; exact hdg)), f4_mem (by rw [h4]; exact .head _), minf _ fun q hq => ?_⟩
        rw [h4] at hq
        rw [List.mem_singleton.mp hq]
        exact Int.le_refl _
      | true =>
        have hdn : ¬ (figS x).cps.toList.all digQ = false := by rw [hdg]; decide
        have hm1 : (markS x).length = 1 := by rw [hmk, hc]; rfl
        have hmne : (markS x == PySem.Str.ofString "") = false := by
          cases hb : markS x == PySem.Str.ofString "" with
          | false => rfl
          | true =>
            rw [eq_of_beq hb] at hm1
            exact absurd hm1 (by decide)
        by_cases c8 : (x.length : Int) ≤ 2 * stepD x + 3
        · have hf : figS x = PySem.Str.ofString "" := len_zero (by rw [fig_len]; omega)
          have h4 : faults4 x = [(2 * stepD x + 3, refusedText (figS x))] := by
            unfold faults4
            refine (if_neg hmn).trans ((if_neg hdn).trans (if_pos ⟨hmne, ?_⟩))
            rw [hf]
            decide +kernel
          have hsl : Txt.slice x (some (2 * stepD x + 2 + 1)) (some (2 * stepD x + 2 + 1 + 0)) = figS x := by
            rw [hf]
            exact len_zero (by rw [sl_len (by omega) (by omega)]; omega)
          have hz : PySem.intText? (Txt.slice x (some (2 * stepD x + 2 + 1)) (some (2 * stepD x + 2 + 1 + 0))) = none := slice_zero (by omega)
          refine .inl ⟨_, _, hp.trans ((tail_few (rem := 0) hlt hocc (by rw [hfg]; exact hdg) (by decide) (by omega)).trans ?_), f4_mem (by rw [h4]; exact .head _), minf _ fun q hq => ?_⟩
          · rw [hz]
            show Except.error (refusedText _) = _
            rw [hsl]
          · rw [h4] at hq
            rw [List.mem_singleton.mp hq]
            exact Int.le_refl _
        · have hfn : (figS x == PySem.Str.ofString "") = false := by
            cases hb : figS x == PySem.Str.ofString "" with
            | false => rfl
            | true =>
              have := fig_len x
              rw [eq_of_beq hb] at this
              have e0 : (PySem.Str.ofString "").length = 0 := by decide +kernel
              omega
          refine okc ?_ fun a b d f e1 e2 => ?_
          · unfold faults4
            refine (if_neg hmn).trans ((if_neg hdn).trans (if_neg fun z => ?_))
            rw [hfn] at z
            cases z.2
          · obtain ⟨a1, a2, a3⟩ := three_inj (ht.symm.trans e1)
            rw [hp, ← a1, ← a2, ← a3]
            exact tail_ok hlt hmq hdg (by omega) e2
end
end Mine
end
section
open PySem PySem.W PyProof.Rows PySem.Calls PySem.Builtin PySem.Builtin.Str PySem.NumText
set_option maxRecDepth 100000
set_option maxHeartbeats 4000000
namespace Mine
section
variable {x : PySem.Str}
theorem p0 (x : PySem.Str) : ((0 : Nat) : Int) * stepD x = 0 := by simp
theorem p1 (x : PySem.Str) : ((1 : Nat) : Int) * stepD x = stepD x := by simp
theorem p2 (x : PySem.Str) : ((2 : Nat) : Int) * stepD x = 2 * stepD x := by simp
theorem step_sep (x : PySem.Str) : stepD x = 2 + sepN (nextS x 2 == sC) := by
  unfold stepD
  rw [show Txt.slice x (some 2) (some 3) = nextS x 2 from rfl]
  cases (nextS x 2 == PySem.Str.ofString ":") <;> rfl
/-- what the parser tells is what the faults tell -/
theorem parse_spec (x : PySem.Str) : ErrD x ∨ OkD x := by
  have hst := stepD_or x
  have hsp := step_sep x
  have nb1 : 0 < nB x := by
    unfold nB
    split
    · decide
    · split <;> decide
  by_cases c0 : (x.length : Int) < 2
  · have hm := f1_mem (x := x) (i := 0) nb1 (by rw [p0, pair_len_eq (by decide)]; omega)
    exact .inl ⟨_, _, parseP_err (goP_short (by omega)), hm, min_pair (j := 0) (by decide) (fun i hi => absurd hi (Nat.not_lt_zero _)) (fun e => by cases e)⟩
  have l0 : (pairS x (((0 : Nat) : Int) * stepD x)).length = 2 := by
    rw [p0, pair_len_eq (by decide)]
    omega
  cases q0 : PySem.intText? (pairS x (((0 : Nat) : Int) * stepD x)) with
  | none =>
    have hm := f2_mem nb1 l0 q0
    have hmin := min_pair (x := x) (j := 0) (by decide) (fun i hi => absurd hi (Nat.not_lt_zero _)) (fun e => by cases e)
    rw [p0] at hm hmin q0
    exact .inl ⟨_, _, parseP_err (goP_bad (by omega) q0), hm, hmin⟩
  | some v0 =>
  have g0 : GoodP x 0 := ⟨l0, v0, q0⟩
  have q0z : PySem.intText? (pairS x ((0 : Int) * stepD x)) = some v0 := q0
  rw [p0] at q0
  by_cases c2 : (x.length : Int) ≤ 2
  · have hnb : nB x = 1 := by
      unfold nB
      rw [if_neg (by omega), if_neg (by omega)]
    have hn : (nextS x (0 + 2)).length = 0 := by
      rw [next_len (by decide)]
      omega
    have hgo : goP x 3 0 false [] = .ok (0 + 2, [] ++ [v0]) := goP_stop (by omega) q0 (.inl hn)
    refine .inr ⟨no_first (fun i hi => good0 g0 (by rw [← hnb]; exact hi)) (f3_none fun z => by omega) (f4_none (by omega)), fun a b d f e1 e2 => ?_⟩
    have hf : figS x = PySem.Str.ofString "" := len_zero (by rw [fig_len]; omega)
    rw [six_empty hf] at e2
    obtain ⟨a1, a2, a3⟩ := three_inj ((three1 hnb q0z).symm.trans e1)
    rw [parseP_ok hgo (show ([] ++ [v0] ++ [0, 0] : List Int).take 3 = [v0, 0, 0] from rfl), tail_end (by omega), a1, ← a2, ← a3, Option.some.inj e2]
  have nx0 : ¬ ((nextS x (0 + 2)).length = 0 ∨ 2 = 0) := by
    rw [next_len (by decide)]
    omega
  have hgo1 : goP x 3 0 false [] = goP x 2 (stepD x) (nextS x 2 == sC) [v0] := by
    rw [goP_on (v := v0) (by omega) q0 nx0 (by
      rintro ⟨h1, h2⟩
      have h1' : (nextS x (0 + 2) == sC) = true := h1
      rw [bne, h1'] at h2
      cases h2)]
    have e : (0 : Int) + 2 + sepN (sepP x 2 0 false) = stepD x := by
      show 0 + 2 + sepN (nextS x (0 + 2) == sC) = stepD x
      rw [hsp]
      rfl
    rw [e]
    rfl
  have nb2 : 1 < nB x := by
    unfold nB
    split
    · decide
    · rw [if_pos (by omega)]
      decide
  have hmin1 := min_pair (x := x) (j := 1) (by decide) (fun i hi => good0 g0 hi) (fun e => by cases e)
  by_cases c3 : (x.length : Int) - stepD x < 2
  · have hm := f1_mem (x := x) (i := 1) nb2 (by rw [p1, pair_len_eq (by omega)]; omega)
    exact .inl ⟨_, _, parseP_err (hgo1.trans (goP_short c3)), hm, hmin1⟩
  have l1 : (pairS x (((1 : Nat) : Int) * stepD x)).length = 2 := by
    rw [p1, pair_len_eq (by omega)]
    omega
  cases q1 : PySem.intText? (pairS x (((1 : Nat) : Int) * stepD x)) with
  | none =>
    have hm := f2_mem nb2 l1 q1
    rw [p1] at hm hmin1 q1
    exact .inl ⟨_, _, parseP_err (hgo1.trans (goP_bad c3 q1)), hm, hmin1⟩
  | some v1 =>
  have g1 : GoodP x 1 := ⟨l1, v1, q1⟩
  have q1z : PySem.intText? (pairS x ((1 : Int) * stepD x)) = some v1 := q1
  rw [p1] at q1
  by_cases c4 : (x.length : Int) ≤ stepD x + 2
  · have hnb : nB x = 2 := by
      unfold nB
      rw [if_neg (by omega), if_pos (by omega)]
    have hn : (nextS x (stepD x + 2)).length = 0 := by
      rw [next_len (by omega)]
      omega
    have hgo : goP x 3 0 false [] = .ok (stepD x + 2, [v0] ++ [v1]) := hgo1.trans (goP_stop c3 q1 (.inl hn))
    refine .inr ⟨no_first (fun i hi => good1 g0 g1 (by rw [← hnb]; exact hi)) (f3_none fun z => by omega) (f4_none (by omega)), fun a b d f e1 e2 => ?_⟩
    have hf : figS x = PySem.Str.ofString "" := len_zero (by rw [fig_len]; omega)
    rw [six_empty hf] at e2
    obtain ⟨a1, a2, a3⟩ := three_inj ((three2 hnb q0z q1z).symm.trans e1)
    rw [parseP_ok hgo (show ([v0] ++ [v1] ++ [0, 0] : List Int).take 3 = [v0, v1, 0] from rfl), tail_end (by omega), a1, a2, ← a3, Option.some.inj e2]
  have hnb : nB x = 3 := by
    unfold nB
    rw [if_pos (by omega)]
  have nx1 : ¬ ((nextS x (stepD x + 2)).length = 0 ∨ 1 = 0) := by
    rw [next_len (by omega)]
    omega
  have hsep : sepP x 1 (stepD x) (nextS x 2 == sC) = (nextS x 2 == sC) := rfl
  by_cases c5 : stepD x = 3 ∧ (Txt.item x 5 == sC) = false
  · obtain ⟨h53, h5⟩ := c5
    have hpos : stepD x + 2 = 5 := by omega
    have hs1 : (nextS x 2 == sC) = true := by
      cases hb : nextS x 2 == sC with
      | true => rfl
      | false =>
        rw [hb] at hsp
        have : sepN false = 0 := rfl
        omega
    have hin : Txt.item x 5 = nextS x 5 := item_next (by decide) (by omega)
    have h3 : faults3 x = [(5, PySem.Str.ofString "Invalid time separator: " ++ Txt.item x 5)] := by
      unfold faults3
      exact if_pos ⟨h53, by omega, h5⟩
    have hgs := goP_sep (x := x) (n := 1) (pos := stepD x) (sep := nextS x 2 == sC) (cs := [v0]) (v := v1) c3 q1 nx1 (hsep.trans hs1) (by
      rw [hpos, ← hin, bne, h5]
      rfl)
    rw [hpos, ← hin] at hgs
    refine .inl ⟨5, _, parseP_err (hgo1.trans hgs), f3_mem (by rw [h3]; exact .head _), fun q hq => ?_⟩
    rcases mem_first hq with ⟨i, hi, e, hb⟩ | h | h
    · have : 2 ≤ i := Nat.le_of_not_lt fun hlt => hb (good1 g0 g1 hlt)
      rw [e, h53]
      omega
    · rw [(f3_place h).2.2.2]
      exact Int.le_refl _
    · have := f4_place h
      omega
  have h3 : faults3 x = [] := f3_none fun z => c5 ⟨z.1, z.2.2⟩
  have hgo2 : goP x 3 0 false [] = goP x 1 (2 * stepD x) (nextS x 2 == sC) [v0, v1] := by
    rw [hgo1, goP_on (v := v1) c3 q1 nx1 (by
      rintro ⟨h1, h2⟩
      rw [hsep] at h1
      rw [h1] at hsp
      have e3 : stepD x = 3 := hsp
      have h5 : ¬ (Txt.item x 5 == sC) = false := fun z => c5 ⟨e3, z⟩
      rw [e3, show (3 : Int) + 2 = 5 from rfl, ← item_next (by decide) (by omega), bne] at h2
      rw [Bool.not_eq_false] at h5
      rw [h5] at h2
      cases h2)]
    rw [hsep, show stepD x + 2 + sepN (nextS x 2 == sC) = 2 * stepD x by omega]
    rfl
  have nb3 : 2 < nB x := by rw [hnb]; decide
  have hmin2 := min_pair (x := x) (j := 2) (by decide) (fun i hi => good1 g0 g1 hi) (fun _ => h3)
  by_cases c6 : (x.length : Int) - 2 * stepD x < 2
  · have hm := f1_mem (x := x) (i := 2) nb3 (by rw [p2, pair_len_eq (by omega)]; omega)
    exact .inl ⟨_, _, parseP_err (hgo2.trans (goP_short c6)), hm, hmin2⟩
  have l2 : (pairS x (((2 : Nat) : Int) * stepD x)).length = 2 := by
    rw [p2, pair_len_eq (by omega)]
    omega
  cases q2 : PySem.intText? (pairS x (((2 : Nat) : Int) * stepD x)) with
  | none =>
    have hm := f2_mem nb3 l2 q2
    rw [p2] at hm hmin2 q2
    exact .inl ⟨_, _, parseP_err (hgo2.trans (goP_bad c6 q2)), hm, hmin2⟩
  | some v2 =>
  have g2 : GoodP x 2 := ⟨l2, v2, q2⟩
  have q2z : PySem.intText? (pairS x ((2 : Int) * stepD x)) = some v2 := q2
  rw [p2] at q2
  have hgo : goP x 3 0 false [] = .ok (2 * stepD x + 2, [v0, v1] ++ [v2]) := hgo2.trans (goP_stop c6 q2 (.inr rfl))
  exact tail_spec hnb g0 g1 g2 h3 (three3 hnb q0z q1z q2z) (parseP_ok hgo rfl)
/-- the words of the least fault are one -/
theorem least_one {k k' : Int} {msg msg' : PySem.Str} (h : (k, msg) ∈ faultsD x) (hm : ∀ q ∈ faultsD x, k ≤ q.1) (h' : (k', msg') ∈ faultsD x) (hm' : ∀ q ∈ faultsD x, k' ≤ q.1) : msg = msg' := by
  have e : k = k' := Int.le_antisymm (hm _ h') (hm' _ h)
  subst e
  obtain ⟨i, hi, ei⟩ := List.getElem_of_mem h
  obtain ⟨j, hj, ej⟩ := List.getElem_of_mem h'
  rcases Nat.lt_trichotomy i j with c | c | c
  · have := place_ne c (List.getElem?_eq_some_iff.mpr ⟨hj, ej⟩) (List.getElem?_eq_some_iff.mpr ⟨hi, ei⟩)
    exact absurd rfl this
  · subst c
    rw [ei] at ej
    exact congrArg Prod.snd ej
  · have := place_ne c (List.getElem?_eq_some_iff.mpr ⟨hi, ei⟩) (List.getElem?_eq_some_iff.mpr ⟨hj, ej⟩)
    exact absurd rfl this
/-- what _law_due tells is what the parser tells -/
theorem due_tells {o : Obj} (h : DueIs x o) :
    (∃ (a b d f : Int) (t1 t2 t3 t4 : Tok) (c : Nat), parseP x = .ok [a, b, d, f] ∧ o = W.listOf #[.int a t1, .int b t2, .int d t3, .int f t4] c) ∨
    (∃ msg t c, parseP x = .error msg ∧ o.cls = .type "tuple" ∧ o.data = .seq #[.str msg t] c) := by
  rcases h with ⟨hn, a, b, d, f, t1, t2, t3, t4, c, rfl, h3, h6⟩ | ⟨k, msg, hm, hmin, hc, t, c, hd⟩
  · rcases parse_spec x with ⟨k, msg, _, hm, _⟩ | ⟨_, hok⟩
    · rw [hn] at hm
      cases hm
    · exact .inl ⟨a, b, d, f, t1, t2, t3, t4, c, hok a b d f h3 h6, rfl⟩
  · rcases parse_spec x with ⟨k', msg', hp, hm', hmin'⟩ | ⟨hn, _⟩
    · rw [least_one hm hmin hm' hmin'] at hd
      exact .inr ⟨msg', t, c, hp, hc, hd⟩
    · rw [hn] at hm
      cases hm
end
end Mine
end
section
open PySem PySem.W PyProof.Rows PySem.Calls
set_option maxRecDepth 100000
namespace Mine
theorem enter_callC {M : Model} {A : Around} {s : Shared} {f : Value} {pos : List Value} {kw : List (Str × Value)} {c : ClaimW} {cl : Str → Option Addr} {mean : ExcName → Option Value} {args : List WData} {s₁ : Shared}
    (h : codeC M A (.call f ⟨pos, kw⟩) (GoodWG c cl mean args s₁) s) : wpC M A (PySem.call f pos kw) (fun v s' => GoodWG c cl mean args s₁ (.ok (.ret v)) s') (fun e s' => GoodWG c cl mean args s₁ (.error e) s') s :=
  wpC_call (codeC_mono h fun res s' g => by rcases g.1 with ⟨v, _, _, rfl, _⟩ | ⟨e, _, _, rfl, _⟩ <;> exact g)
theorem call_cellsC {prog : Program} {w : World} {A : Around} {R : Result → Shared → Prop} {s : Shared} {name : Str} {params : Arguments} {body : List Stmt} {scope : Scope}
    {dV kV pm cd doc : Value} {a : Addr} {o : Obj} {args : Args} {binds : List (Str × Value)}
    (hroom : A.depth < recursionLimit) (ho : s.heap.get? a = some o) (hdata : o.data = .func { docDef name params body scope pm cd doc with defaults := dV, kwdefaults := kV }) (hlim : s.heap.NoLimit) (hcd : s.heap.CodeRec cd name)
    (hbind : BindsTo s { docDef name params body scope pm cd doc with defaults := dV, kwdefaults := kV } args binds)
    (hkind : (binds.all fun y => scope.names.lookup y.1 == some .local || scope.names.lookup y.1 == some .cell) = true)
    (hnd : ((cellsFrom 0 scope.names []).map (·.1)).Nodup)
    (h : ∀ h₁ tk cells, Fr s.heap s.heap.objs.size h₁ (bindL (envOfC name scope s.heap.objs.size a cd).kindOf binds fun _ => none) → News s.heap s.heap.objs.size h₁ cells →
      CellsAre (bindC (envOfC name scope s.heap.objs.size a cd).kindOf binds fun _ => none) (cellsFrom (s.heap.objs.size + 1) scope.names []) cells →
      wpC (model prog w) (A.deeper (envOfC name scope s.heap.objs.size a cd)) (execs body (envOfC name scope s.heap.objs.size a cd))
        (fun f s' => R (.ok (.ret (match f with | .ret v => v | _ => .none))) s')
        (fun e s' => wpAny (model prog w) (A.deeper (envOfC name scope s.heap.objs.size a cd)) (leaving (envOfC name scope s.heap.objs.size a cd) e)
          (fun _ s'' => R (.error e) s'') (fun e' s'' => R (.error e') s'') s')
        { s with heap := h₁, toks := tk })
    (hco : scope.isCoroutine = false := by rfl) (hgen : scope.isGenerator = false := by rfl) (hk : scope.kind = .function := by rfl) :
    codeC (model prog w) A (.call (.ref a) args) R s := by
  refine codeC_call_cells hroom ho hdata hlim hcd rfl hbind rfl (kindsX hkind _) (fun s₁ x => ?_) hco hgen hk
  obtain ⟨h₁, tk, rfl, _⟩ := x.done
  have hk₁ := x.toInCall.keep
  obtain ⟨cells, NC, Y⟩ := Cl.news (h₀ := s.heap) (Nat.le_refl _) fun n c hm => ⟨x.cell n c (lookup_of_mem_nodup (cellsFrom_names scope.names 0 (s.heap.objs.size + 1) [] [] rfl ▸ hnd) hm), x.above n c hm⟩
  exact h h₁ tk cells ⟨x.toInCall.ns, hk₁, Nat.le_refl _⟩ NC Y
section
variable {prog : Program} {w : World} {A : Around} {E : Value → Shared → Prop} {s : Shared} {env : Env} {h₀ : Heap} {x : Str} {px : Pos} {body : List Stmt} {Q : Flow → Shared → Prop}
/-- a `for` over a tuple of the ledger, its body at stacks that bear the caller -/
theorem tupleC {l : Addr} {ol : Obj} {items : Array Value} {c : Nat} {m₀ : Str → Option Value} {news : List (Addr × Obj)}
    (J : Nat → (Str → Option Value) → List (Addr × Obj) → Prop) (hoc : ol.cls = .type "tuple") (hod : ol.data = .seq items c)
    (hh : A.handled = none) (hl : ∀ i m nw, J i m nw → (l, ol) ∈ nw)
    (F : Fr h₀ env.locals s.heap m₀) (N : News h₀ env.locals s.heap news) (hj : J 0 m₀ news) (hE : PassesOwn (model prog w) A env E)
    (turn : ∀ i v m₁ nw h tk I oI, i < items.size → items[i]? = some v → J i m₁ nw → (∀ p ∈ nw, p.1 ≠ I) → Fr h₀ env.locals h m₁ → News h₀ env.locals h ((I, oI) :: nw) →
      wpAny (model prog w) A (assign (.Name x px) env v) (fun _ s₃ => wpC (model prog w) A (execs body env) (JPost h₀ env.locals (J (i + 1)) I oI { s with heap := h, toks := tk } Q) E s₃) E { s with heap := h, toks := tk })
    (done : ∀ m' nw h tk, J items.size m' nw → Fr h₀ env.locals h m' → News h₀ env.locals h nw → Q .next { s with heap := h, toks := tk }) :
    wpAny (model prog w) A (pyIter (.ref l)) (fun it s₂ => codeC (model prog w) A (.forLoop (.Name x px) it body [] env) (fun r s' => match r with | .ok f => Q f s' | .error e => cameBackBy (model prog w) A env E e s') s₂) E s := by
  have hm := hl _ _ _ hj
  have hls : s.heap.IsTuple l items := ⟨_, (N _ hm).1, hoc, c, hod⟩
  have hlt : l < s.heap.objs.size := Heap.lt_size (N _ hm).1
  refine wpAny_pyIter_tuple hls ?_
  have hnew := next_is_new F
  generalize hI : s.heap.objs.size = I at hnew ⊢
  have hLI : env.locals ≠ I := fun e => absurd F.ns.lt (by rw [e, ← hI]; exact Nat.lt_irrefl _)
  have hlI : l ≠ I := fun e => by rw [e, hI] at hlt; exact Nat.lt_irrefl _ hlt
  have W := Walks.tuple (prog := prog) (w := w) (A := A) hh I l hlI items
  refine codeC_forLoop (fun k s' => ∃ h' tk m' nw i, s' = { s with heap := h', toks := tk } ∧ h'.IsTupleIter I l i ∧ Fr h₀ env.locals h' m' ∧ News h₀ env.locals h' nw ∧ (∀ p ∈ nw, p.1 ≠ I) ∧ J i m' nw ∧ i ≤ items.size ∧ k = items.size + 1 - i) ?_ (items.size + 1)
    ⟨_, _, m₀, news, 0, rfl, ⟨_, by rw [← hI]; exact Heap.get?_push_size _ rfl, rfl, rfl⟩, F.push _, fun p hq => ⟨Heap.get?_push_of_some _ (N p hq).1, (N p hq).2⟩, fun p hq e => ?_, hj, Nat.zero_le _, rfl⟩
  · rintro k s' ⟨h', tk, m', nw, i, rfl, hst, F', N', hoff, hJ, hi, rfl⟩
    have hm' := hl _ _ _ hJ
    have hls' : h'.IsTuple l items := ⟨_, (N' _ hm').1, hoc, c, hod⟩
    have keep : ∀ h₁ : Heap, (∀ b o, b ∉ [I] → h'.get? b = some o → h₁.get? b = some o) → Fr h₀ env.locals h₁ m' ∧ News h₀ env.locals h₁ nw := fun h₁ hk => by
      refine ⟨⟨F'.ns.at' fun o e => hk _ o (fun q => hLI (List.mem_singleton.mp q)) e, fun b o e => hk b o (fun q => ?_) (F'.keep b o e), F'.above⟩, fun p hq => ⟨hk _ _ (fun q => hoff p hq (List.mem_singleton.mp q)) (N' p hq).1, (N' p hq).2⟩⟩
      rw [List.mem_singleton.mp q, hnew] at e
      cases e
    by_cases hlt : i < items.size
    · refine W.item i _ _ _ hlt ⟨hst, hls'⟩ fun v h₁ tk₁ hP hst₁ hk₁ => ?_
      obtain ⟨F₁, N₁⟩ := keep h₁ hk₁
      obtain ⟨oI, hoI, hcI, hdI⟩ := hst₁.1
      have N₃ : News h₀ env.locals h₁ ((I, oI) :: nw) := fun p hq => by
        rcases List.mem_cons.mp hq with rfl | hq
        · exact ⟨hoI, fun e => hLI e.symm, hnew⟩
        · exact N₁ p hq
      refine wpAny_mono (turn i v m' nw h₁ tk₁ I oI hlt hP hJ hoff F₁ N₃) (fun _ s₃ q₃ => wpC_mono q₃ (fun f s₄ q => ?_) hE) hE
      have fin : JEnd h₀ env.locals (J (i + 1)) I oI { s with heap := h₁, toks := tk₁ } s₄ → ∃ m, m < items.size + 1 - i ∧ ∃ h' tk m' nw i, s₄ = { s with heap := h', toks := tk } ∧ h'.IsTupleIter I l i ∧ Fr h₀ env.locals h' m' ∧ News h₀ env.locals h' nw ∧ (∀ p ∈ nw, p.1 ≠ I) ∧ J i m' nw ∧ i ≤ items.size ∧ m = items.size + 1 - i := by
        rintro ⟨h₄, tk₄, m₄, nw₄, nx, rfl, F₄, N₄, hI₄, hx₄, ho₄, hJ₄⟩
        exact ⟨items.size + 1 - (i + 1), by omega, h₄, tk₄, m₄, nx, i + 1, rfl, ⟨oI, (N₄ _ hI₄).1, hcI, hdI⟩, F₄, fun p hq => N₄ p (hx₄ p hq), ho₄, hJ₄, hlt, rfl⟩
      cases f with
      | ret v => exact q
      | brk => exact q
      | next => exact fin q
      | cont => exact fin q
    · obtain rfl : i = items.size := by omega
      refine W.done _ _ _ ⟨hst, hls'⟩ fun h₁ tk₁ hk₁ => ?_
      obtain ⟨F₁, N₁⟩ := keep h₁ hk₁
      exact wpAny_execs_nil (done m' nw h₁ tk₁ hJ F₁ N₁)
  · have := Heap.lt_size (N p hq).1
    rw [e, ← hI] at this
    exact Nat.lt_irrefl _ this
end
end Mine
end
section
open PySem PySem.W PyProof.Rows PySem.Calls
set_option maxRecDepth 100000
set_option maxHeartbeats 2000000
namespace Mine
open LCg
theorem mem2 {b x y : Addr} (h1 : b ≠ x) (h2 : b ≠ y) : b ∉ [x, y] := fun q => (List.mem_cons.mp q).elim h1 fun q => h2 (List.mem_singleton.mp q)
theorem mem3 {b x y z : Addr} (h1 : x ≠ b) (h2 : y ≠ b) (h3 : z ≠ b) (h : b ∈ [x, y, z]) : False := (List.mem_cons.mp h).elim (fun e => h1 e.symm) fun q => (List.mem_cons.mp q).elim (fun e => h2 e.symm) fun q => h3 (List.mem_singleton.mp q).symm
inductive EltE (h₀ : Heap) (L : Addr) (m : Str → Option Value) (s : Shared) (e it C D : Addr) (oe oi oC : Obj) (ys : List Value) (P : Value → List (Addr × Obj) → Prop) (y : Value) (s' : Shared) : Prop
  | mk (h' : Heap) (tk : Tok) (nw' : List (Addr × Obj)) (_ : s' = { s with heap := h', toks := tk }) (_ : Fr h₀ L h' m) (_ : News h₀ L h' ((e, oe) :: (it, oi) :: (C, oC) :: (D, lst ys) :: nw')) (_ : ∀ p ∈ nw', p.1 ≠ e ∧ p.1 ≠ it ∧ p.1 ≠ C ∧ p.1 ≠ D) (_ : P y nw') : EltE h₀ L m s e it C D oe oi oC ys P y s'
/-- the loop's invariant -/
inductive InvE (h₀ : Heap) (L : Addr) (m : Str → Option Value) (s₁ : Shared) (e it l C D : Addr) (items : Array Value) (J : Nat → List Value → List (Addr × Obj) → Prop) (k : Nat) (s' : Shared) : Prop
  | mk (h' : Heap) (tk : Tok) (i : Nat) (ys : List Value) (m' : Str → Option Value) (nw : List (Addr × Obj)) (_ : s' = { s₁ with heap := h', toks := tk }) (_ : i ≤ items.size) (_ : k = items.size + 1 - i) (_ : (∃ old, IsEnum h' e it i old) ∧ h'.IsListIter it l i ∧ h'.IsList l items) (_ : Fr h₀ L h' m) (_ : h'.Ns C m') (_ : News h₀ L h' ((D, lst ys) :: nw)) (_ : ∀ p ∈ nw, p.1 ≠ e ∧ p.1 ≠ it ∧ p.1 ≠ C ∧ p.1 ≠ D) (_ : J i ys nw) : InvE h₀ L m s₁ e it l C D items J k s'
inductive SrcE (prog : Program) (w : World) (A : Around) (h₀ : Heap) (L : Addr) (m : Str → Option Value) (env : Env) (elt : Expr) (xi xc : Str) (scope : Scope) (cl : List (Str × Addr)) (Q : Value → Shared → Prop) (xv : Value) (s₁ : Shared) : Prop
  | mk (J : Nat → List Value → List (Addr × Obj) → Prop) (e it l : Addr) (items : Array Value) (n : Nat) (old : Value) (news : List (Addr × Obj)) (_ : xv = .ref e) (_ : A.handled = none) (_ : Fr h₀ L s₁.heap m) (_ : News h₀ L s₁.heap news) (_ : IsEnum s₁.heap e it 0 old) (_ : s₁.heap.IsListIter it l 0) (_ : e ≠ it) (_ : e ≠ L) (_ : it ≠ L) (_ : h₀.get? e = none) (_ : h₀.get? it = none) (_ : ∀ p ∈ news, p.1 ≠ e ∧ p.1 ≠ it)
    (_ : items.size ≤ sizeLine) (_ : J 0 [] news) (_ : ∀ i ys nw, J i ys nw → ys.length = i ∧ (l, W.listOf items n) ∈ nw)
    (_ : ∀ i v t ys nw oe oi C oC D m₂ h tk (E' : Value → Shared → Prop), items[i]? = some v → J i ys nw → NsObj oC m₂ → m₂ xi = some (.int (i : Int) t) → m₂ xc = some v → Fr h₀ L h m → News h₀ L h ((e, oe) :: (it, oi) :: (C, oC) :: (D, lst ys) :: nw) → (∀ p ∈ nw, p.1 ≠ e ∧ p.1 ≠ it ∧ p.1 ≠ C ∧ p.1 ≠ D) →
      wpAny (model prog w) A (eval elt (compEnvC scope cl C env)) (EltE h₀ L m { s₁ with heap := h, toks := tk } e it C D oe oi oC ys (fun y nw' => J (i + 1) (ys ++ [y]) nw')) E' { s₁ with heap := h, toks := tk })
    (_ : ∀ D h tk ys nw, Fr h₀ L h m → News h₀ L h ((D, lst ys) :: nw) → (∀ p ∈ nw, p.1 ≠ D) → J items.size ys nw → Q (.ref D) { s₁ with heap := h, toks := tk }) : SrcE prog w A h₀ L m env elt xi xc scope cl Q xv s₁
section
variable {prog : Program} {w : World} {A : Around} {E : Value → Shared → Prop} {s : Shared} {h₀ : Heap} {L : Addr} {m : Str → Option Value} {env : Env}
/-- `[elt for k, x in enumerate(xs)]` over a list of the ledger -/
theorem ListComp_enum {elt iter : Expr} {xi xc : Str} {pk pv tp : Pos} {x1 : Nat} {scope : Scope} {cl : List (Str × Addr)} {pos : Pos} {Q : Value → Shared → Prop} (_ : Fr h₀ L s.heap m)
    (hclos : closureFor scope env = pure cl) (hcell : ∀ y ∈ scope.names, y.2 ≠ .cell) (hkind : scope.kind = .function)
    (hnames : ∀ y ∈ scope.names, y.2 = .local → scope.names.lookup y.1 = some .local) (hxi : scope.names.lookup xi = some .local) (hxc : scope.names.lookup xc = some .local) (hxx : xi ≠ xc)
    (hs : ∀ x, foldedSetIterable iter env x = pure x)
    (h : wpAny (model prog w) A (eval iter env) (SrcE prog w A h₀ L m env elt xi xc scope cl Q) E s) :
    wpAny (model prog w) A (eval (.ListComp elt [⟨.Tuple [.Name xi pk, .Name xc pv] x1 tp, iter, [], 0⟩] scope pos) env) Q E s := by
  rw [eval_ListComp]
  refine wpAny_comprehension_free (use := none) rfl hs hclos hkind hnames (wpAny_mono h (fun xv s₁ h₁ => ?_) fun _ _ e => e)
  obtain ⟨J, e, it, l, items, c, old, news, rfl, hh, F, N, hE, hI, hei, heL, hiL, he₀, hi₀, off0, hsz, hj, ht, turn, fin⟩ := h₁
  have hm := (ht _ _ _ hj).2
  have hls : s₁.heap.IsList l items := ⟨_, (N _ hm).1, rfl, c, rfl⟩
  have hle : l ≠ e := (off0 _ hm).1
  have hli : l ≠ it := (off0 _ hm).2
  refine wpAny_pyIter_enum hE ?_
  have W := WalksT.enumerate (prog := prog) (w := w) (A := A) hh e it l hei hle hli items
  refine wpAny_newObj_type (wpAny_newFunctionEnv hcell (by intro y hy; simp at hy) (fun h₁ hns₁ hsb₁ => ?_) hkind)
  dsimp only at hns₁ hsb₁ ⊢
  generalize hD : s₁.heap.objs.size = D at *
  generalize hH2 : s₁.heap.push { cls := .type "list", dict := none, data := .seq ([] : List Value).toArray } = H2 at hns₁ hsb₁ ⊢
  generalize hC : H2.objs.size = C at *
  have eC : C = D + 1 := by rw [← hC, ← hH2, Heap.size_push, hD]
  have hCD : C ≠ D := by rw [eC]; exact Nat.succ_ne_self _
  have lt_D : ∀ b o, s₁.heap.get? b = some o → b < D := fun b o q => hD ▸ Heap.lt_size q
  have hDC : D ≤ C := by rw [eC]; exact Nat.le_succ _
  have below : ∀ b o, s₁.heap.get? b = some o → b ≠ C ∧ b ≠ D := fun b o q => ⟨Nat.ne_of_lt (Nat.lt_of_lt_of_le (lt_D b o q) hDC), Nat.ne_of_lt (lt_D b o q)⟩
  obtain ⟨oi0, hoi0, hic, hid⟩ := id hI
  have hoe0 : ∃ oe, s₁.heap.get? e = some oe := ⟨_, hE⟩
  obtain ⟨oe0, hoe0⟩ := hoe0
  have old' : ∀ b o, s₁.heap.get? b = some o → h₁.get? b = some o := fun b o q => hsb₁.extBut b o (below b o q).1 (Heap.get?_push_of_some _ (by rw [← hH2]; exact Heap.get?_push_of_some _ q))
  have hacc : h₁.get? D = some (lst []) := hsb₁.extBut _ _ hCD.symm (Heap.get?_push_of_some _ (by rw [← hH2, ← hD]; exact Heap.get?_push_size _ rfl))
  have fresh : ∀ a, D ≤ a → h₀.get? a = none := fun a ha => by
    cases q : h₀.get? a with
    | none => rfl
    | some o' => exact absurd (lt_D _ _ (F.keep a o' q)) (Nat.not_lt.mpr ha)
  have hLlt : L < D := hD ▸ F.ns.lt
  have hLD : L ≠ D := Nat.ne_of_lt hLlt
  have hLC : L ≠ C := Nat.ne_of_lt (Nat.lt_of_lt_of_le hLlt hDC)
  have heC := below _ _ hoe0
  have hiC := below _ _ hoi0
  have offN : ∀ p ∈ news, p.1 ≠ e ∧ p.1 ≠ it ∧ p.1 ≠ C ∧ p.1 ≠ D := fun p hp => ⟨(off0 p hp).1, (off0 p hp).2, (below _ _ (N p hp).1).1, (below _ _ (N p hp).1).2⟩
  have st₁ : (∃ old, IsEnum h₁ e it 0 old) ∧ h₁.IsListIter it l 0 ∧ h₁.IsList l items := W.frame 0 _ _ ⟨⟨old, hE⟩, hI, hls⟩ fun b _ o q => old' b o q
  have loop : codeAny (model prog w) A (.compLoop (.ListComp elt [⟨.Tuple [.Name xi pk, .Name xc pv] x1 tp, iter, [], 0⟩] scope pos) 0 (.ref e) (.ref D) (compEnvC scope cl C env))
        (compPost (model prog w) A E none Q (.ref D) C) { s₁ with heap := h₁, toks := s₁.toks + ([] : List (Str × Value)).length } := by
    refine LCp.codeAny_compLoop_pair
      (InvE h₀ L m s₁ e it l C D items J) ?_ (items.size + 1) ?_
    · rintro k s' ⟨h', tk, i, ys, m', nw, rfl, hi, rfl, hst', F', hn', N', off', hJ⟩
      have fr2 : ∀ h₂ : Heap, (∀ b o, b ∉ [e, it] → h'.get? b = some o → h₂.get? b = some o) → Fr h₀ L h₂ m ∧ h₂.Ns C m' ∧ News h₀ L h₂ ((D, lst ys) :: nw) := fun h₂ hk => by
        have ne : ∀ b, b ≠ e → b ≠ it → b ∉ [e, it] := fun b h1 h2 => mem2 h1 h2
        refine ⟨⟨F'.ns.at' fun o q => hk L o (ne L heL.symm hiL.symm) q, fun b o q => hk b o (ne b (fun z => ?_) (fun z => ?_)) (F'.keep b o q), F'.above⟩, hn'.at' fun o q => hk C o (ne C heC.1.symm hiC.1.symm) q, fun p hp => ⟨hk _ _ (ne p.1 (consE heC.2.symm (fun q hq => (off' q hq).1) p hp) (consE hiC.2.symm (fun q hq => (off' q hq).2.1) p hp)) (N' p hp).1, (N' p hp).2⟩⟩
        · rw [z, he₀] at q
          cases q
        · rw [z, hi₀] at q
          cases q
      by_cases hlt : i < items.size
      · refine W.item i _ _ _ hlt hst' fun T vals h₂ tk₂ hPt hTs hT hMid hk₂ => ?_
        obtain ⟨t, v, hv, rfl⟩ := hPt
        obtain ⟨F₂, n₂, N₂⟩ := fr2 h₂ hk₂
        refine W.go _ _ _ i T _ _ _ hMid fun h₃ hst₃ hk₃ => ?_
        have hTnot := W.apart i T _ hMid
        have hT₃ : h₃.IsTuple T #[.int (i : Int) t, v] := hT.at fun o q => hk₃ T o hTnot q
        have ne : ∀ b, b ≠ e → b ≠ it → b ∉ [e, it] := fun b h1 h2 => mem2 h1 h2
        have F₃ : Fr h₀ L h₃ m := ⟨F₂.ns.at' fun o q => hk₃ L o (ne L heL.symm hiL.symm) q, fun b o q => hk₃ b o (ne b (fun z => by rw [z, he₀] at q; cases q) (fun z => by rw [z, hi₀] at q; cases q)) (F₂.keep b o q), F₂.above⟩
        have n₃ : h₃.Ns C m' := n₂.at' fun o q => hk₃ C o (ne C heC.1.symm hiC.1.symm) q
        have N₃ : News h₀ L h₃ ((D, lst ys) :: nw) := fun p hp => ⟨hk₃ _ _ (ne p.1 (consE heC.2.symm (fun q hq => (off' q hq).1) p hp) (consE hiC.2.symm (fun q hq => (off' q hq).2.1) p hp)) (N₂ p hp).1, (N₂ p hp).2⟩
        refine assign_Tuple_tuple hh hT₃ rfl rfl fun h₅ he => ?_
        have he' : ∀ b o, h₃.get? b = some o → h₅.get? b = some o := fun b o q => he b o (Nat.ne_of_lt (Heap.lt_size q)) q
        refine assignInOrder_cons (wpAny_assign_Name (wpAny_storeName_local (lookup_relabel_local hxi) (n₃.at' fun o q => he' _ o q) (fun h₆ hn₆ hs₆ => ?_) (by simp [compEnvC, relabel, hkind])))
        refine assignInOrder_cons (wpAny_assign_Name (wpAny_storeName_local (lookup_relabel_local hxc) hn₆ (fun h₇ hn₇ hs₇ => ?_) (by simp [compEnvC, relabel, hkind])))
        refine assignInOrder_nil ?_
        have old7 : ∀ b o, b ≠ C → h₃.get? b = some o → h₇.get? b = some o := fun b o hb q => hs₇.extBut b o hb (hs₆.extBut b o hb (he' b o q))
        have hst₇ := W.frame (i + 1) _ h₇ hst₃ fun b hb o q => old7 b o (fun z => mem3 heC.1 hiC.1 (offN _ hm).2.2.1 (z ▸ hb)) q
        obtain ⟨oC, gC, hoC⟩ := ns_obj hn₇
        obtain ⟨⟨old7', ge⟩, gi, _⟩ := id hst₇
        obtain ⟨oi, goi, _, _⟩ := id gi
        obtain ⟨oe, goe⟩ : ∃ oe, h₇.get? e = some oe := ⟨_, ge⟩
        have hC₀ := fresh C hDC
        have hD₀ := fresh D (Nat.le_refl _)
        have F₇ : Fr h₀ L h₇ m := ((F₃.keeps he').change hs₆ hLC.symm hC₀).change hs₇ hLC.symm hC₀
        have N₇ : News h₀ L h₇ ((e, oe) :: (it, oi) :: (C, oC) :: (D, lst ys) :: nw) :=
          newsE ⟨goe, heL, he₀⟩ (newsE ⟨goi, hiL, hi₀⟩ (newsE ⟨gC, hLC.symm, hC₀⟩ fun p hp => ⟨old7 _ _ (consE hCD.symm (fun q hq => (off' q hq).2.2.1) p hp) (N₃ p hp).1, (N₃ p hp).2⟩))
        refine wpAny_mono (turn i v t ys nw oe oi C oC D _ h₇ _ _ hv hJ hoC (by simp [hxx]) (by simp) F₇ N₇ off') (fun y s₄ q₄ => ?_) fun _ _ e => e
        obtain ⟨h₄, tk₄, nw₄, rfl, F₄, N₄, off₄, J₄⟩ := q₄
        have ze := N₄ (e, oe) (.head _)
        have zi := N₄ (it, oi) (.tail _ (.head _))
        have zC := N₄ (C, oC) (.tail _ (.tail _ (.head _)))
        have zD := N₄ (D, lst ys) (.tail _ (.tail _ (.tail _ (.head _))))
        have N₄' : News h₀ L h₄ nw₄ := fun p hp => N₄ p (.tail _ (.tail _ (.tail _ (.tail _ hp))))
        have hm₄ := (ht _ _ _ J₄).2
        have hst₄ : (∃ old, IsEnum h₄ e it (i + 1) old) ∧ h₄.IsListIter it l (i + 1) ∧ h₄.IsList l items := by
          refine ⟨⟨old7', ?_⟩, gi.at fun o q => ?_, ⟨_, (N₄' _ hm₄).1, rfl, c, rfl⟩⟩
          · show h₄.get? e = some _
            rw [ze.1, ← goe]
            exact ge
          · rw [goi] at q
            cases q
            exact zi.1
        refine append_at (hsz := by show ys.toArray.size ≤ sizeLine; rw [List.size_toArray, (ht _ _ _ hJ).1]; exact Nat.le_trans hi hsz) zD.1 fun h₈ hs₈ hD₈ => ?_
        have hst₈ := W.frame (i + 1) _ h₈ hst₄ fun b hb o q => hs₈.extBut b o (fun z => mem3 heC.2 hiC.2 (offN _ hm).2.2.2 (z ▸ hb)) q
        refine ⟨items.size + 1 - (i + 1), by omega, h₈, tk₄, i + 1, ys ++ [y], _, nw₄, rfl, hlt, rfl, hst₈, F₄.change hs₈ hLD.symm hD₀, (hoC.ns zC.1).sameBut hs₈ hCD, fun p hp => ?_, off₄, J₄⟩
        exact newsE ⟨hD₈.trans (congrArg some (lst_snoc ys y)), zD.2⟩ (fun q hq => ⟨hs₈.extBut _ _ (off₄ q hq).2.2.2 (N₄' q hq).1, (N₄' q hq).2⟩) p hp
      · obtain rfl : i = items.size := Nat.le_antisymm hi (Nat.not_lt.mp hlt)
        refine W.done _ _ _ hst' fun h₂ tk₂ hk₂ => ?_
        obtain ⟨F₂, n₂, N₂⟩ := fr2 h₂ hk₂
        refine ⟨m', n₂, fun h'' hs'' => fin D h'' tk₂ ys nw (F₂.change hs'' hLC.symm (fresh C hDC)) (fun p hp => ?_) (fun p hp => (off' p hp).2.2.2) hJ⟩
        exact ⟨hs''.extBut _ _ (consE hCD.symm (fun q hq => (off' q hq).2.2.1) p hp) (N₂ p hp).1, (N₂ p hp).2⟩
    · refine ⟨h₁, _, 0, [], _, news, rfl, Nat.zero_le _, rfl, st₁, F.keeps old', hns₁, fun p hp => ?_, offN, hj⟩
      exact newsE ⟨hacc, hLD.symm, fresh D (Nat.le_refl _)⟩ (fun q hq => ⟨old' _ _ (N q hq).1, (N q hq).2⟩) p hp
  exact codeAny_compStart_list loop (W.self 0 _ _ _ st₁ loop)
theorem enum_src {elt : Expr} {xi xc : Str} {scope : Scope} {cl : List (Str × Addr)} {Q : Value → Shared → Prop} {l : Addr} {items : Array Value} {n : Nat} {news : List (Addr × Obj)} (J : Nat → List Value → List (Addr × Obj) → Prop)
    (hh : A.handled = none) (F : Fr h₀ L s.heap m) (N : News h₀ L s.heap news) (hsz : items.size ≤ sizeLine) (hj : J 0 [] news) (ht : ∀ i ys nw, J i ys nw → ys.length = i ∧ (l, W.listOf items n) ∈ nw)
    (turn : ∀ e it i v t ys nw oe oi C oC D m₂ h tk (E' : Value → Shared → Prop), items[i]? = some v → J i ys nw → NsObj oC m₂ → m₂ xi = some (.int (i : Int) t) → m₂ xc = some v → Fr h₀ L h m → News h₀ L h ((e, oe) :: (it, oi) :: (C, oC) :: (D, lst ys) :: nw) → (∀ p ∈ nw, p.1 ≠ e ∧ p.1 ≠ it ∧ p.1 ≠ C ∧ p.1 ≠ D) →
      wpAny (model prog w) A (eval elt (compEnvC scope cl C env)) (EltE h₀ L m { s with heap := h, toks := tk } e it C D oe oi oC ys (fun y nw' => J (i + 1) (ys ++ [y]) nw')) E' { s with heap := h, toks := tk })
    (fin : ∀ D h tk ys nw, Fr h₀ L h m → News h₀ L h ((D, lst ys) :: nw) → (∀ p ∈ nw, p.1 ≠ D) → J items.size ys nw → Q (.ref D) { s with heap := h, toks := tk }) :
    wpAny (model prog w) A (call (.type "enumerate") [.ref l]) (SrcE prog w A h₀ L m env elt xi xc scope cl Q) E s := by
  have hm := (ht _ _ _ hj).2
  refine call_enumerate_list ⟨_, (N _ hm).1, rfl, n, rfl⟩ fun h' hE hI hsz' hk => ?_
  have lt : ∀ b o, s.heap.get? b = some o → b < s.heap.objs.size := fun b o q => Heap.lt_size q
  have fresh : ∀ a, s.heap.objs.size ≤ a → h₀.get? a = none := fun a ha => by
    cases q : h₀.get? a with
    | none => rfl
    | some o' => exact absurd (lt _ _ (F.keep a o' q)) (Nat.not_lt.mpr ha)
  refine ⟨J, _, _, l, items, n, _, news, rfl, hh, F.keeps hk, N.grown hk, hE, hI, Nat.succ_ne_self _, Nat.ne_of_gt (Nat.lt_succ_of_lt F.ns.lt), Nat.ne_of_gt F.ns.lt, fresh _ (Nat.le_succ _), fresh _ (Nat.le_refl _), fun p hp => ?_, hsz, hj, ht, fun i v t ys nw oe oi C oC D m₂ h tk E' a b c d e f g k => turn _ _ i v t ys nw oe oi C oC D m₂ h tk E' a b c d e f g k, fin⟩
  have := lt _ _ (N p hp).1
  exact ⟨Nat.ne_of_lt (Nat.lt_succ_of_lt this), Nat.ne_of_lt this⟩
end
end Mine
end
section
open PySem PySem.W PyProof.Rows PySem.Calls PySem.Builtin PySem.Builtin.Str
set_option maxRecDepth 100000
namespace Mine
/-- texts of one sign each -/
def SignsAre (ys : List Value) (n : Nat) : Prop := ∃ xs : List PySem.Str, StrsAre ys xs ∧ xs.length = n ∧ ∀ x ∈ xs, ∃ c, x = ⟨#[c]⟩ ∧ c < 1114112
theorem SignsAre.nil : SignsAre [] 0 := ⟨[], .nil, rfl, fun _ h => nomatch h⟩
theorem SignsAre.snoc {ys : List Value} {n c : Nat} {t : Tok} (h : SignsAre ys n) (hc : c < 1114112) : SignsAre (ys ++ [.str ⟨#[c]⟩ t]) (n + 1) := by
  obtain ⟨xs, a, b, d⟩ := h
  refine ⟨xs ++ [⟨#[c]⟩], strs_snoc a _ _, by simp [b], fun x hx => ?_⟩
  rcases List.mem_append.mp hx with hx | hx
  · exact d x hx
  · exact ⟨c, List.mem_singleton.mp hx, hc⟩
theorem SignsAre.len {ys : List Value} {n : Nat} (h : SignsAre ys n) : ys.length = n := by
  obtain ⟨xs, a, b, _⟩ := h
  rw [a.length, b]
theorem strs_values : ∀ {vs : List Value} {xs : List PySem.Str}, StrsAre vs xs → ∃ l : List (PySem.Str × Tok), vs = strValues l ∧ l.map (·.1) = xs
  | _, _, .nil => ⟨[], rfl, rfl⟩
  | _, _, .cons x t r => by
    obtain ⟨l, e1, e2⟩ := strs_values r
    exact ⟨(x, t) :: l, by rw [e1]; rfl, by rw [← e2]; rfl⟩
theorem fold_ones : ∀ (xs : List PySem.Str) (acc : Nat), (∀ x ∈ xs, ∃ c, x = (⟨#[c]⟩ : PySem.Str) ∧ c < 1114112) → xs.foldl (fun a y => a + y.length + (PySem.Str.ofString "").length) acc = acc + xs.length
  | [], acc, _ => rfl
  | x :: r, acc, h => by
    obtain ⟨c, rfl, _⟩ := h x (.head _)
    have e : (PySem.Str.ofString "").length = 0 := by decide +kernel
    rw [List.foldl_cons, fold_ones r _ fun y hy => h y (.tail _ hy), e, List.length_cons]
    show acc + 1 + 0 + r.length = acc + (r.length + 1)
    omega
theorem join_signs_text : ∀ (xs : List PySem.Str), (∀ x ∈ xs, ∃ c, x = (⟨#[c]⟩ : PySem.Str) ∧ c < 1114112) → (PySem.Str.join (PySem.Str.ofString "") xs).length = xs.length ∧ ∀ c ∈ (PySem.Str.join (PySem.Str.ofString "") xs).cps.toList, c < 1114112
  | [], _ => ⟨rfl, fun c hc => by
    have : (PySem.Str.join (PySem.Str.ofString "") []).cps.toList = [] := rfl
    rw [this] at hc
    cases hc⟩
  | [x], h => by
    obtain ⟨c, rfl, hc⟩ := h x (.head _)
    refine ⟨rfl, fun d hd => ?_⟩
    have hd' : d ∈ [c] := hd
    rw [List.mem_singleton.mp hd']
    exact hc
  | x :: y :: r, h => by
    obtain ⟨c, rfl, hc⟩ := h x (.head _)
    obtain ⟨h1, h2⟩ := join_signs_text (y :: r) fun z hz => h z (.tail _ hz)
    have e : PySem.Str.join (PySem.Str.ofString "") (⟨#[c]⟩ :: y :: r) = (⟨#[c]⟩ ++ PySem.Str.ofString "") ++ PySem.Str.join (PySem.Str.ofString "") (y :: r) := rfl
    have ez : (PySem.Str.ofString "").cps.toList = [] := by decide +kernel
    refine ⟨?_, fun d hd => ?_⟩
    · rw [e, strLen_append, strLen_append, h1]
      show 1 + (PySem.Str.ofString "").length + (y :: r).length = (y :: r).length + 1
      have : (PySem.Str.ofString "").length = 0 := by decide +kernel
      omega
    · rw [e, cat_toList, cat_toList, ez, List.append_nil] at hd
      rcases List.mem_append.mp hd with hd | hd
      · have hd' : d ∈ [c] := hd
        rw [List.mem_singleton.mp hd']
        exact hc
      · exact h2 d hd
section
variable {prog : Program} {w : World} {A : Around} {E : Value → Shared → Prop} {s : Shared} {Q : Value → Shared → Prop}
/-- join of a list of single signs -/
theorem join_signs {D : Addr} {ys : List Value} {n : Nat} {t : Tok} (hl : s.heap.IsList D ys.toArray) (hy : SignsAre ys n) (hn : n ≤ 64)
    (h : ∀ sp t k, sp.length = n → (∀ c ∈ sp.cps.toList, c < 1114112) → Q (.str sp t) { s with toks := k }) : wpAny (model prog w) A (call (.builtin "str.join") [.str (PySem.Str.ofString "") t, .ref D]) Q E s := by
  obtain ⟨xs, hx, hxn, hxs⟩ := hy
  obtain ⟨l, rfl, e⟩ := strs_values hx
  obtain ⟨h1, h2⟩ := join_signs_text xs hxs
  refine PySem.SC.join hl e ?_ fun t' k => ?_
  · unfold JoinOk
    rw [List.foldl_toArray, fold_ones xs 0 hxs, Nat.zero_add, hxn]
    rw [Bool.not_eq_true']
    unfold tooLong
    exact decide_eq_false (by
      have : (64 : Nat) ≤ sizeLine := by decide
      omega)
  · have e2 : Txt.join (PySem.Str.ofString "") xs = PySem.Str.join (PySem.Str.ofString "") xs := StrLaws.glued_eq_join _ _
    rw [e2]
    exact h _ t' k (by rw [h1, hxn]) h2
end
end Mine
end
section
open PySem PySem.W PyProof.Rows PySem.Calls PySem.SeqAt
set_option maxRecDepth 100000
namespace Mine
section
variable {prog : Program} {w : World} {A : Around} {E : Value → Shared → Prop} {s : Shared} {h₀ : Heap} {L : Addr} {news : List (Addr × Obj)} {Q : Value → Shared → Prop}
theorem four_at {a b d f : Int} {t1 t2 t3 t4 u1 u2 u3 u4 : Tok} : ∀ j (h1 : j < #[Value.int a t1, .int b t2, .int d t3, .int f t4].size) (h2 : j < #[Value.int a u1, .int b u2, .int d u3, .int f u4].size), EqAt A s #[Value.int a t1, .int b t2, .int d t3, .int f t4][j] #[Value.int a u1, .int b u2, .int d u3, .int f u4][j] true := fun j h1 h2 => by
  have e : ∀ (n : Int) (t u : Tok), EqAt A s (.int n t) (.int n u) true := fun n t u => by
    have q := EqAt.int_int (A := A) (s := s) n t n u
    rwa [beq_self_eq_true] at q
  have hj : j = 0 ∨ j = 1 ∨ j = 2 ∨ j = 3 := by
    have : j < 4 := h1
    omega
  rcases hj with rfl | rfl | rfl | rfl <;> exact e _ _ _
theorem ne_four {R1 R2 : Addr} {a b d f : Int} {t1 t2 t3 t4 u1 u2 u3 u4 : Tok} {c1 c2 : Nat} (N : News h₀ L s.heap news) (m1 : (R1, W.listOf #[.int a t1, .int b t2, .int d t3, .int f t4] c1) ∈ news) (m2 : (R2, W.listOf #[.int a u1, .int b u2, .int d u3, .int f u4] c2) ∈ news)
  (hu : A.units < cLine) (h : Q (.bool false) s) : wpAny (model prog w) A (compareOp .NotEq (.ref R1) (.ref R2)) Q E s := by
  have q := RcNeAt.lists (A := A) (s := s) (l := R1) (b := R2) (e := fun _ => true) ⟨_, (N _ m1).1, rfl, _, rfl⟩ ⟨_, (N _ m2).1, rfl, _, rfl⟩ rfl hu four_at
  exact q prog w E Q h
theorem ne_msg {R1 R2 : Addr} {o1 o2 : Obj} {x : PySem.Str} {t u : Tok} {c1 c2 : Nat} (N : News h₀ L s.heap news) (m1 : (R1, o1) ∈ news) (m2 : (R2, o2) ∈ news) (k1 : o1.cls = .type "tuple") (d1 : o1.data = .seq #[.str x t] c1) (k2 : o2.cls = .type "tuple") (d2 : o2.data = .seq #[.str x u] c2)
  (hu : A.units < cLine) (h : Q (.bool false) s) : wpAny (model prog w) A (compareOp .NotEq (.ref R1) (.ref R2)) Q E s := by
  have q := RcNeAt.tuples (A := A) (s := s) (l := R1) (b := R2) (items := #[.str x t]) (items2 := #[.str x u]) (e := fun _ => true) ⟨_, (N _ m1).1, k1, _, d1⟩ ⟨_, (N _ m2).1, k2, _, d2⟩ hu (fun j h1 h2 => by
    obtain rfl : j = 0 := by
      have : j < 1 := h1
      omega
    have q := EqAt.str_str (A := A.in1) (s := s) x t x u
    rwa [beq_self_eq_true] at q)
  exact q prog w E Q h
end
end Mine
end
section
open PySem PySem.W PyProof.Rows PySem.Calls
set_option maxRecDepth 100000
namespace Mine
section
variable {prog : Program} {w : World} {A₀ : Around} {E : Value → Shared → Prop} {s' : Shared} {h₀ h : Heap} {outer : List Env} {L a e t : Addr} {m : Str → Option Value} {name : Str} {scope : Scope} {cd : Value} {cl : List (Str × Addr)}
  {vs : List Value} {n : Str} {b₀ : Stmt} {suite : List Stmt} {pos np : Pos} {rest : List ExceptHandler} {Q : Flow → Shared → Prop} {news : List (Addr × Obj)}
  {p : Program} {loose : List Str} {mean : ExcName → Option Value} {mg mb : Str → Option Value} {x : Str} {X T' : String} {Kf : Frag}
/-- an exception caught in a frame with cells of its own -/
theorem caught_KBX (K : Below A₀ h₀ outer h₀) (F : Fr h₀ L h m) (hsm : h.UpToSlots s'.heap) (R : RaisedK h₀ (envX name scope L a cd cl :: outer) e (.type X) t vs news s'.heap)
    (T : TopRead p loose mg mb h₀) (XK : Kf.In h₀) (ek : nsIn Kf mainGlobals x = some none) (hv : bootBuiltins x = some (.type T'))
    (hexc : isSubtype (.type T') (.type "BaseException") = pure true) (hnt : isSubtype (.type ((Manifest.find? T').elim "type" fun y => y.metatype)) (.type "tuple") = pure false) (hsub : isSubtype (.type X) (.type T') = pure true)
    (k : ∀ h' news₂ tk, Fr h₀ L h' (fun y => if y = n then some (.ref e) else m y) → News h₀ L h' news₂ → Got news₂ e t (.type X) vs → News h₀ L h' news →
      wpAny (model prog w) ((A₀.deeper (envX name scope L a cd cl)).mark (some (.ref e))) (execs (b₀ :: suite) (envX name scope L a cd cl))
        (fun f s₄ => wpAny (model prog w) (A₀.deeper (envX name scope L a cd cl)) (do bindName (envX name scope L a cd cl) n .none; unbindBehindTheSuite (envX name scope L a cd cl) n pos) (fun _ s₅ => Q f s₅) E s₄)
        (AsSuiteRaised (model prog w) ((A₀.deeper (envX name scope L a cd cl)).mark (some (.ref e))) (envX name scope L a cd cl) n pos (notedBy (model prog w) ((A₀.deeper (envX name scope L a cd cl)).mark (some (.ref e))) (envX name scope L a cd cl) (cameBackBy (model prog w) (A₀.deeper (envX name scope L a cd cl)) (envX name scope L a cd cl) E)))
        { s' with heap := h', toks := tk })
    (hn : x ≠ "__name__" := by decide +kernel)
    (hk : scope.kind = .function := by rfl) (hlo : (envX name scope L a cd cl).kindOf n = some .local := by rfl) (hx : (envX name scope L a cd cl).kindOf x = some .globalImplicit := by rfl) (hd : (x == ("__debug__" : Str)) = false := by decide) :
    wpAny (model prog w) (A₀.deeper (envX name scope L a cd cl)) (noteFrame (.ref e) (envX name scope L a cd cl))
      (fun _ s₂ => wpAny (model prog w) (A₀.deeper (envX name scope L a cd cl)) (setFlight (.ref e) none) (fun _ s₃ =>
        wpAny (model prog w) (A₀.deeper (envX name scope L a cd cl)) (handleBy (.ref e) (envX name scope L a cd cl) (.ExceptHandler (some (.Name x np)) (some n) (b₀ :: suite) pos :: rest)) Q E s₃) E s₂) E s' := by
  obtain ⟨⟨B, hB, hl, hfl, hnew⟩, htup⟩ := R
  have hL : B.get? L = none := by
    obtain ⟨_, ⟨L', _, hf, hn', _⟩, _⟩ := hfl.2.2.1
    obtain rfl : L = L' := Option.some.inj hf
    exact hn'
  refine wpAny_looks_onW (Around.frames_deeper K.stack) rfl hfl fun h₄ hheld₄ hsm₄ => ?_
  refine wpAny_landsW hheld₄ fun h₅ hheld hsm₅' => ?_
  have hsm₅ := hsm₄.trans hsm₅'
  have hheld' := flyingW_base hB hheld
  have F₅ := F.of_stays hheld'.1 (hsm.trans hsm₅)
  obtain ⟨ob, hob, hobc⟩ := hheld'.there
  refine wpAny_handleBy_builtin_as (X := X) (T := T') (b := true) hexc hnt hsub (nameX_B F₅ XK T ek hv hn ⟨rfl, ⟨ob, hob, hobc⟩, ?_⟩ hk hx hd)
  refine lands_againW hheld fun h₆ hfl₆ hsm₆ => ?_
  have hfl₆' := flyingW_base hB hfl₆
  have F₆ := F.of_stays hfl₆'.1 ((hsm.trans hsm₅).trans hsm₆)
  obtain ⟨oe, ws, hoe, hoec, hoed, hoe0⟩ := hfl₆'.first
  obtain ⟨ot, nt, hot, hotc, hotd⟩ := (htup.of_slots hsm₅).of_slots hsm₆
  have N₆ := News.more F₆ (News.more F₆ News.nil hot (fun es n q => by rw [hotd] at q; cases q) (fresh_of_stays hB hnew)) hoe (fun es n q => by rw [hoed] at q; cases q) hfl₆'.2.1
  have Nl : News h₀ L h₆ news := fun q hq => ⟨hfl₆.1 _ _ (hl q hq).1, (fun z => by have := (hl q hq).1; rw [z, hL] at this; cases this), (hl q hq).2⟩
  refine storeX_L F₆ (news := _ ++ news) (fun q hq => (List.mem_append.mp hq).elim (N₆ q) (Nl q)) (fun h₇ F₇ N₇ => ?_) hk hlo
  exact k h₇ _ _ F₇ (fun q hq => N₇ q (List.mem_append_left _ hq)) ⟨oe, ot, ws, nt, .head _, .tail _ (.head _), hoec, hoed, hoe0, hotc, hotd⟩ fun q hq => N₇ q (List.mem_append_right _ hq)
end
theorem name_goes_X {M : Model} {A : Around} {E : Value → Shared → Prop} {s : Shared} {name : Str} {scope : Scope} {L a : Addr} {cd : Value} {cl : List (Str × Addr)} {h₀ : Heap} {m : Str → Option Value} {news : List (Addr × Obj)} {n : Str} {pos : Pos} {Q : Unit → Shared → Prop} (F : Fr h₀ L s.heap m) (N : News h₀ L s.heap news)
    (h : ∀ h' v, Fr h₀ L h' (fun x => if x = n then v else m x) → News h₀ L h' news → Q () { s with heap := h', toks := s.toks + 1 })
    (hk : scope.kind = .function := by rfl) (hl : (envX name scope L a cd cl).kindOf n = some .local := by rfl) :
    wpAny M A (do bindName (envX name scope L a cd cl) n .none; unbindBehindTheSuite (envX name scope L a cd cl) n pos) Q E s :=
  wpAny_nameGoes_keeps hl F.ns (by show (scope.kind == .class || (scope.kind == .module && L != mainGlobals)) = false; rw [hk]; rfl) fun h' v hn hs => h h' v (F.set hn hs) (N.set hs)
theorem got_join {h₀ h : Heap} {L e t : Addr} {nA nw : List (Addr × Obj)} {cls : Value} {vs : List Value} (NA : News h₀ L h nA) (G : Got nA e t cls vs) (NB : News h₀ L h nw) :
    ∃ oe ot, News h₀ L h ((t, ot) :: (e, oe) :: nw) ∧ Got ((t, ot) :: (e, oe) :: nw) e t cls vs := by
  obtain ⟨oe, ot, ws, nt, g1, g2, g3⟩ := G
  refine ⟨oe, ot, fun p hp => ?_, oe, ot, ws, nt, .tail _ (.head _), .head _, g3⟩
  rcases List.mem_cons.mp hp with rfl | hp
  · exact NA _ g2
  · rcases List.mem_cons.mp hp with rfl | hp
    · exact NA _ g1
    · exact NB _ hp
end Mine
end
section
open PySem PySem.W PyProof.Rows PySem.Calls
local macro_rules | `(tactic| k_steps) => `(tactic| repeat' (first | (k_unfold; (try dsimp only)) | (k_end; wrow_close) | (walk_at "my stop"; walk1) | (walk_at "my stop"; dsimp only; walk1) | (leave1; walk_say "STEP leave1"; try dsimp only) | fail "no step"))
local macro_rules | `(tactic| walk_at "units") => `(tactic| ((try simp only [units_deeper, units_in1, units_caller, cLine_is]); first | decide | (simp only [cLine_is] at *; omega)))
section
open PySem PySem.W PyProof.Rows PySem.Calls
set_option maxRecDepth 100000
set_option pp.maxSteps 1500
set_option maxHeartbeats 8000000
set_option rowWalk.seconds 0
namespace Mine
inductive HaltR7 : Prop → Prop
  | k0 {M A Q E s a b c} : HaltR7 (wpAny M A (call (Value.ref a) b c) Q E s)
  | k1 {M A Q E s a b} : HaltR7 (wpAny M A (noteFrame a b) Q E s)
theorem HaltR7.go {p : Prop} (_ : HaltR7 p) (h : p) : p := h
local macro_rules | `(tactic| walk_at "my stop") => `(tactic| fail_if_success (with_reducible refine HaltR7.go (by constructor) ?_))
section
variable {w : World} {A A₀ : Around} {E : Value → Shared → Prop} {s : Shared} {L : Addr} {h₀ base g₀ : Heap} {outer : List Env} {m mg mb : Str → Option Value} {news : List (Addr × Obj)} {p : Program} {loose : List Str} {mean : ExcName → Option Value} {Q : Value → Shared → Prop} {env : Env}
theorem read7 (B : Below A₀ base outer h₀) (F : Fr h₀ L s.heap m) (X : (hd.heap_39 w.params).In h₀) (XB : (hd.heap_39 w.params).In base) (TB : Top p loose mean mg mb base) (N : News h₀ L s.heap news) (T : Top p loose mean mg mb h₀) (D : KtsDicts (outer.filterMap (·.frame)) h₀)
  (T0 : KtsTurn (outer.filterMap (·.frame)) g₀ h₀) (hA : A.frames = some (env :: outer)) (hf : env.frame = some L) (hke : env.scope.kind = .function)
  (hroom : A.depth + 30 < recursionLimit) (hh : A.handled = none) (hu : A.units + 30 < cLine) {x : Str} {t : Tok} (hx : x.length ≤ 100) (hcp : ∀ c ∈ x.cps.toList, c < 16 ^ 8)
  (hok : ∀ h' tk n t', PySem.intText? x = some n → Fr h₀ L h' m → News h₀ L h' news → Q (.int n t') { s with heap := h', toks := tk })
  (hbad : ∀ g' h' tk l t1 o c, PySem.intText? x = none → o.cls = .type "tuple" → o.data = .seq #[.str (refusedText x) t1] c → KtsTurn (outer.filterMap (·.frame)) g₀ g' → Fr g' L h' m → News g' L h' ((l, o) :: news) → Below A₀ base outer g' → (hd.heap_39 w.params).In g' → Top p loose mean mg mb g' → KtsDicts (outer.filterMap (·.frame)) g' → Q (.ref l) { s with heap := h', toks := tk }) :
  wpC (model PySem.Challenge.rw_km0086_07.row.prog w) A (call (.ref 43) [.str x t]) Q E s := by
  w_top off
  refine wpC_call ?_
  refine' codeC_defSX B F X N T XB TB D T0 hA hf hke ?k6 ?k7 ?k8 ?k9 ?kB ?_ ?c2 ?c3 ?c4 ?c5
  case k6 => k_is
  case k7 => k_is
  case k8 => k_room
  case k9 => exact BindsTo.of_eq rfl
  case kB => exact locs rfl
  case c2 => exact rfl
  case c3 => exact rfl
  case c4 => exact rfl
  case c5 => decide
  intro g' L' h' FG' F' N' B' X' T' D'
  (try dsimp only)
  refine wpC_execs_cons (wpC_Try_except (wpC_execs_cons (wpC_Return (wpC_Call_Name ?_))))
  k_steps
  refine wpC_callWith_type ?_
  k_steps
  (with_reducible rename Fr g' _ _ _ => F8)
  (with_reducible rename News g' _ _ _ => N8)
  refine call_int_text (Nat.le_trans hx (by decide)) hcp hh (fun n hn => ?_) (fun hn h9 tk9 e9 t9 M9 => ?_)
  · k_steps
    (with_reducible rename Fr h₀ L _ m => FE)
    (with_reducible rename News h₀ L _ _ => NE)
    exact hok _ _ _ _ hn FE NE
  · dsimp only
    refine look_made B' (Heap.MadeExc.of M9) F8 N8 (fun h10 t10 G10 F10 R10 U10 => ?_)
    refine hit_SB (KF := hd.heap_39 w.params) R10 F10 B' U10 XB TB D' KtsTurn.refl (test_name (c := .type "ValueError") ?_ ?_ rfl rfl (by decide)) ?_
    · exact .inr ⟨by k_is, by boot_by_name, by decide +kernel⟩
    · kts_exm
    intro h12 g12 newsA tkA K12 FA NA GA NB B12 X12 T12 D12
    obtain ⟨oe, ot, ws, nt, me, mt, hec, hed, hw0, htc, htd⟩ := id GA
    have NM : News g12 L' h12 (newsA ++ news) := fun p hp => (List.mem_append.mp hp).elim (NA p) (NB p)
    have mt' := List.mem_append_left news mt
    have mn' : ∀ p ∈ news, p ∈ newsA ++ news := fun p hp => List.mem_append_right _ hp
    k_steps
    (with_reducible rename Fr _ L _ m => FE)
    (with_reducible rename News _ L _ _ => NE)
    (with_reducible rename KtsTurn _ g₀ _ => TE)
    (with_reducible rename KtsDicts _ _ => DE)
    (with_reducible rename Frag.In _ _ => XE)
    (with_reducible rename Top _ _ _ _ _ _ => TT)
    (with_reducible rename Below A₀ _ _ _ => BE)
    exact hbad _ _ _ _ _ ot _ hn htc htd TE FE (news_sub NE (List.forall_mem_cons.mpr ⟨mt', mn'⟩)) BE XE TT DE
end
end Mine
end
section
open PySem PySem.W PyProof.Rows PySem.Calls
set_option maxRecDepth 100000
set_option pp.maxSteps 1500
set_option maxHeartbeats 8000000
set_option rowWalk.seconds 0
namespace Mine
inductive HaltPA7 : Prop → Prop
  | k0 {M A Q E s a b c d e f g h i} : HaltPA7 (wpAny M A (subscriptTail (Expr.Name a b) (Expr.BinOp c d e f) (Value.ref g) (Value.int h i)) Q E s)
  | k1 {M A Q E s a b c} : HaltPA7 (wpAny M A (call (Value.ref a) b c) Q E s)
  | k2 {M A Q E s a b c} : HaltPA7 (wpAny M A (binaryOp Operator.Mod (Value.str a b) c) Q E s)
  | k3 {M A x E s} {M2 : Value → Shared → Model} {A2 : Value → Shared → Around} {c2 : Value → Shared → Code} {R2 : Value → Shared → Result → Shared → Prop} {s2 : Value → Shared → Shared} : HaltPA7 (wpAny M A (pyIter x) (fun it z => codeC (M2 it z) (A2 it z) (c2 it z) (R2 it z) (s2 it z)) E s)
theorem HaltPA7.go {p : Prop} (_ : HaltPA7 p) (h : p) : p := h
local macro_rules | `(tactic| walk_at "my stop") => `(tactic| fail_if_success (with_reducible refine HaltPA7.go (by constructor) ?_))
local macro_rules | `(tactic| walk_at "exec Raise some none") => `(tactic| (k_here; (with_reducible show wpAny _ _ (exec (Stmt.Raise (some (Expr.Call (Expr.Name ("ValueError" : Str) _) (_ :: _) [] _)) none _) _) _ _ _); (with_reducible rename Fr _ _ _ _ => kF); k_dflt (refine' Raise_madeB PySem.F.excCall_ValueError PySem.F.excRaise_ValueError ?hh ?_; (case hh => first | rfl | assumption); (refine' name_B kF ?k1 ?k2 ?k3 ?k4 ?k5 ?_; (case k1 => k_asm); (case k2 => k_asm); (case k3 => k_is); (case k4 => boot_by_name); (case k5 => decide); k_whole; refine ⟨rfl, ?_⟩))))
local macro_rules | `(tactic| walk_at "leaving ref") => `(tactic| (k_here; (refine' leave_raiseS ?k1 ?k0 ?k2 ?k3 ?_; (case k0 => first | assumption | exact Heap.MadeExc.of (by assumption)); (case k2 => assumption); (case k1 => assumption); (case k3 => k_asm); k_whole; intro h' t' S' K' U'; clear K'; (try dsimp only at S' U' ⊢))))
local macro_rules | `(tactic| walk_at "compareOp NotIn") => `(tactic| (k_here; refine notIn01 (by assumption) (Fold.mono (fun p hp => ?k1) (by assumption)) (by k_mem) ?k2 ?_; (case k1 => first | exact hp | exact .tail _ hp | exact .tail _ (.tail _ hp)); (case k2 => walk_at "units")))
local macro_rules | `(tactic| k_all) => `(tactic| first | assumption | (refine List.forall_mem_cons.mpr ⟨?_, ?_⟩; k_ne; assumption))
theorem raisedS_sub {base G h : Heap} {l : List Env} {e t : Addr} {cls : Value} {vs : List Value} {nw nw' : List (Addr × Obj)} (R : RaisedS base G l e cls t vs nw h) (hs : ∀ p ∈ nw', p ∈ nw) : RaisedS base G l e cls t vs nw' h :=
  ⟨let ⟨B, a, b, c, d⟩ := R.1; ⟨B, a, b, fun q hq => c q (hs q hq), d⟩, R.2⟩
theorem fcP_le (rem : Int) : 10 ≤ fcP rem ∧ fcP rem ≤ 100000 := by
  unfold fcP
  repeat' split
  all_goals omega
section
variable {w : World} {A A₀ : Around} {E : Value → Shared → Prop} {s : Shared} {L : Addr} {h₀ base : Heap} {m mg mb : Str → Option Value} {news : List (Addr × Obj)} {p : Program} {loose : List Str} {mean : ExcName → Option Value} {Q : Value → Shared → Prop} {env : Env} {outer : List Env}
theorem parse (B : Below A₀ base outer h₀) (F : Fr h₀ L s.heap m) (X : (hd.heap_39 w.params).In h₀) (N : News h₀ L s.heap news) (T : Top p loose mean mg mb h₀) (hA : A.frames = some (env :: outer)) (hf : env.frame = some L) (hke : env.scope.kind = .function)
  (hroom : A.depth + 20 < recursionLimit) (hh : A.handled = none) (hu : A.units + 20 < cLine) {x : Str} {t : Tok} (hx : x.length ≤ 100) (hcp : ∀ c ∈ x.cps.toList, c < 16 ^ 8)
  (hok : ∀ h' tk l (a b d f : Int) t1 t2 t3 t4 c, parseP x = .ok [a, b, d, f] → Fr h₀ L h' m → News h₀ L h' ((l, W.listOf #[.int a t1, .int b t2, .int d t3, .int f t4] c) :: news) → (∀ p ∈ news, @LT.lt Nat _ p.1 l) → Q (.ref l) { s with heap := h', toks := tk })
  (hbad : ∀ g h' e' t tk tk' (msg : Str), parseP x = .error msg → Fr h₀ L g m → RaisedS base g (env :: outer) e' (.type "ValueError") t [.str msg tk'] news h' → g.UpToSlots h' → E (.ref e') { s with heap := h', toks := tk }) :
  wpC (model PySem.Challenge.rw_km0086_07.row.prog w) A (call (.ref 29) [.str x t]) Q E s := by
  w_top off
  refine wpC_call ?_
  refine' codeC_def B F X N T hA hf hke ?k6 ?k7 ?k8 ?k9 ?kB ?_ ?c2 ?c3 ?c4 ?c5
  case k6 => k_is
  case k7 => k_is
  case k8 => k_room
  case k9 => exact BindsTo.of_eq rfl
  case kB => exact locs rfl
  case c2 => exact rfl
  case c3 => exact rfl
  case c4 => exact rfl
  case c5 => decide
  intro g' L' h' FG' F' N' B' X' T'
  have hltN := news_lt N'
  refine wpC_execs_cons (wpC_any ?_)
  (try dsimp only)
  k_steps
  refine wpC_execs_cons (wpC_any ?_)
  k_steps
  refine wpC_execs_cons (wpC_any ?_)
  k_steps
  refine wpC_execs_cons (wpC_For ?_)
  k_steps
  rename IsRange _ _ _ _ _ _ _ _ => R1
  (with_reducible rename Fr _ _ _ _ => F1)
  (with_reducible rename News _ _ _ _ => N1)
  refine nm1 N1 ?_
  intro lc e1
  subst e1
  have hD1 : ∀ p ∈ news, @LT.lt Nat _ p.1 lc := by assumption
  have hD : ∀ p ∈ news, p.1 ≠ lc := fun p hp => Nat.ne_of_lt (hD1 p hp)
  refine nmF F1 ?_
  intro m₀ em
  have hts : m₀ ("tstr" : Str) = some (.str x t) := by subst em; rfl
  obtain ⟨tl, hln⟩ : ∃ tl, m₀ ("len_str" : Str) = some (.int (x.length : Int) tl) := by subst em; exact ⟨_, rfl⟩
  have htc : m₀ ("time_comps" : Str) = some (.ref lc) := by subst em; rfl
  obtain ⟨tp0, hp0⟩ : ∃ tp, m₀ ("pos" : Str) = some (.int 0 tp) := by subst em; exact ⟨_, rfl⟩
  rw [← em] at F1
  clear em
  refine rangeCB 3 (fun i m nw => ∃ (c0 c1 c2 : Int) (t0 t1 t2 t3 : Tok) (c : Nat) (pos : Int) (tp : Tok) (sep : Bool), nw = (lc, W.listOf #[.int c0 t0, .int c1 t1, .int c2 t2, .int 0 t3] c) :: news ∧ m ("tstr" : Str) = some (.str x t) ∧ m ("len_str" : Str) = some (.int (x.length : Int) tl) ∧ m ("time_comps" : Str) = some (.ref lc) ∧ m ("pos" : Str) = some (.int pos tp) ∧
      (1 ≤ i → m ("has_sep" : Str) = some (.bool sep)) ∧ (i = 0 → c0 = 0) ∧ (i ≤ 1 → c1 = 0) ∧ (i ≤ 2 → c2 = 0) ∧ 0 ≤ pos ∧ pos ≤ 3 * i ∧ goP x 3 0 false [] = goP x (3 - i) pos sep ([c0, c1, c2].take i))
    (fun m nw => ∃ (c0 c1 c2 : Int) (t0 t1 t2 t3 : Tok) (c : Nat) (pos : Int) (tp : Tok) (cs : List Int), nw = (lc, W.listOf #[.int c0 t0, .int c1 t1, .int c2 t2, .int 0 t3] c) :: news ∧ m ("tstr" : Str) = some (.str x t) ∧ m ("len_str" : Str) = some (.int (x.length : Int) tl) ∧ m ("time_comps" : Str) = some (.ref lc) ∧ m ("pos" : Str) = some (.int pos tp) ∧
      0 ≤ pos ∧ pos ≤ 9 ∧ goP x 3 0 false [] = .ok (pos, cs) ∧ (cs ++ [0, 0]).take 3 = [c0, c1, c2]) rfl rfl hh R1 (by decide +kernel) (by decide +kernel) F1 N1 ?_ ?_ ?_ ?_ ?_
  · exact ⟨_, _, _, _, _, _, _, _, _, _, false, rfl, hts, hln, htc, hp0, fun h => absurd h (by decide), fun _ => rfl, fun _ => rfl, fun _ => rfl, by decide, by decide, rfl⟩
  · passes_own
  · rintro i ti m₁ nw h tk I oI hi ⟨c0, c1, c2, t0, t1, t2, t3, c, pos, tp, sep, rfl, hk1, hk2, hk3, hk4, hk5, hz0, hz1, hz2, hlo, hhi, hgo⟩ hoff F2 N2
    obtain ⟨zi, hzi⟩ : ∃ zi : Int, zi = 0 + (i : Int) * 1 := ⟨_, rfl⟩
    rw [← hzi] at F2
    have N3 := news_sub (nw' := (lc, W.listOf #[.int c0 t0, .int c1 t1, .int c2 t2, .int 0 t3] c) :: (I, oI) :: news) N2 (by refine List.forall_mem_cons.mpr ⟨.tail _ (.head _), List.forall_mem_cons.mpr ⟨.head _, fun p hp => .tail _ (.tail _ hp)⟩⟩)
    have hcI : @Ne Nat lc I := hoff _ (.head _)
    have hIn : ∀ p ∈ news, p.1 ≠ I := fun p hp => hoff p (.tail _ hp)
    have hlt' := news_lt N3
    simp only [AllLt] at hlt'
    clear F1 N1 N2 R1
    have hi' : i = 0 ∨ i = 1 ∨ i = 2 := by omega
    rcases hi' with rfl | rfl | rfl
    · obtain rfl : zi = 0 := hzi
      obtain rfl := hz0 rfl
      obtain rfl := hz1 (by decide)
      obtain rfl := hz2 (by decide)
      have em₁ := known4 hk4 hk1 hk2 hk3
      rw [em₁] at F2
      clear em₁ hk1 hk2 hk3 hk4 hk5
      refine wpC_execs_cons (wpC_any ?_)
      k_steps
      · (with_reducible rename RaisedS _ _ _ _ _ _ _ _ _ => R3)
        (with_reducible rename Heap.UpToSlots _ _ => U3)
        exact hbad _ _ _ _ _ _ _ (parseP_err (hgo.trans (goP_short (by assumption)))) FG' (raisedS_sub R3 (fun p hp => .tail _ (.tail _ hp))) U3
      · dsimp only
        rename ¬ (_ - pos < 2) => hlong
        refine wpC_execs_cons (wpC_Assign_Sub (wpC_Call_Name ?_))
        k_steps
        refine wpC_callWith_type ?_
        k_steps
        refine call_int_text (Nat.le_trans (slice_len _ _ _) (Nat.le_trans hx (by decide))) (fun c hc => hcp c (slice_cp hc)) hh (fun n hn => ?_) (fun hn h9 tk9 e9 t9 M9 => ?_)
        · k_steps
          dsimp only
          refine wpC_any ?_
          k_steps
          · rename (_ == _) = true => q1
            rename (_ != _) = true => q2
            unfold bne at q2
            rw [q1] at q2
            cases q2
          · rename (_ : Int) ≠ 0 => q3
            have hne : ¬ ((nextS x (pos + 2)).length = 0 ∨ (2 : Nat) = 0) := fun q => q.elim (fun e => q3 (congrArg Int.ofNat e)) (by decide)
            rename (_ == _) = true => q1
            rename (_ != _) = false => q2
            have hsp : sepP x 2 pos sep = true := q1
            have hon := goP_on (cs := []) (n := 2) (sep := sep) hlong hn hne (fun z => by have z2 := z.2; unfold nextS at z2; rw [q2] at z2; cases z2)
            (with_reducible rename Fr _ _ _ _ => FE)
            (with_reducible rename News _ _ _ _ => NE)
            dsimp only [JPostB]
            refine JEnd.intro ((lc, _) :: news) FE NE (.tail _ (.head _)) (List.forall_mem_cons.mpr ⟨.head _, fun p hp => .tail _ (.tail _ hp)⟩) (List.forall_mem_cons.mpr ⟨hcI, hIn⟩) ⟨n, 0, 0, _, _, _, _, _, _, _, sepP x 2 pos sep, rfl, rfl, rfl, rfl, rfl, fun _ => rfl, fun h => by first | rfl | exact absurd h (by decide), fun h => by first | rfl | exact absurd h (by decide), fun h => by first | rfl | exact absurd h (by decide), ?_, ?_, hgo.trans hon⟩
            all_goals (first | omega | (split <;> omega))
          · rename (_ : Int) ≠ 0 => q3
            have hne : ¬ ((nextS x (pos + 2)).length = 0 ∨ (2 : Nat) = 0) := fun q => q.elim (fun e => q3 (congrArg Int.ofNat e)) (by decide)
            rename (_ == _) = false => q1
            have hsp : sepP x 2 pos sep = false := q1
            have hon := goP_on (cs := []) (n := 2) (sep := sep) hlong hn hne (fun z => by rw [hsp] at z; cases z.1)
            (with_reducible rename Fr _ _ _ _ => FE)
            (with_reducible rename News _ _ _ _ => NE)
            dsimp only [JPostB]
            refine JEnd.intro ((lc, _) :: news) FE NE (.tail _ (.head _)) (List.forall_mem_cons.mpr ⟨.head _, fun p hp => .tail _ (.tail _ hp)⟩) (List.forall_mem_cons.mpr ⟨hcI, hIn⟩) ⟨n, 0, 0, _, _, _, _, _, _, _, sepP x 2 pos sep, rfl, rfl, rfl, rfl, rfl, fun _ => rfl, fun h => by first | rfl | exact absurd h (by decide), fun h => by first | rfl | exact absurd h (by decide), fun h => by first | rfl | exact absurd h (by decide), ?_, ?_, hgo.trans hon⟩
            all_goals (first | omega | (split <;> omega))
          · (with_reducible rename Fr _ _ _ _ => FE)
            (with_reducible rename News _ _ _ _ => NE)
            (try dsimp only)
            dsimp only [JPostB]
            refine ⟨_, _, _, (lc, _) :: news, rfl, FE, news_sub NE (List.forall_mem_cons.mpr ⟨.head _, fun p hp => .tail _ (.tail _ hp)⟩), n, 0, 0, _, _, _, _, _, _, _, [n], rfl, rfl, rfl, rfl, rfl, ?_, ?_, hgo.trans (goP_stop (cs := []) (n := 2) (sep := sep) hlong hn (Or.inl (Int.ofNat.inj (by assumption)))), rfl⟩
            all_goals omega
        · k_steps
          (with_reducible rename RaisedS _ _ _ _ _ _ _ _ _ => R3)
          (with_reducible rename Heap.UpToSlots _ _ => U3)
          exact hbad _ _ _ _ _ _ _ (parseP_err (hgo.trans (goP_bad hlong hn))) FG' (raisedS_sub R3 (fun p hp => .tail _ (.tail _ hp))) U3
    · obtain rfl : zi = 1 := hzi
      obtain rfl := hz1 (by decide)
      obtain rfl := hz2 (by decide)
      have hk6 := hk5 (by decide)
      have em₁ := known5 hk4 hk6 hk1 hk2 hk3
      rw [em₁] at F2
      clear em₁ hk1 hk2 hk3 hk4 hk5 hk6
      cases sep
      · refine wpC_execs_cons (wpC_any ?_)
        k_steps
        · (with_reducible rename RaisedS _ _ _ _ _ _ _ _ _ => R3)
          (with_reducible rename Heap.UpToSlots _ _ => U3)
          exact hbad _ _ _ _ _ _ _ (parseP_err (hgo.trans (goP_short (by assumption)))) FG' (raisedS_sub R3 (fun p hp => .tail _ (.tail _ hp))) U3
        · dsimp only
          rename ¬ (_ - pos < 2) => hlong
          refine wpC_execs_cons (wpC_Assign_Sub (wpC_Call_Name ?_))
          k_steps
          refine wpC_callWith_type ?_
          k_steps
          refine call_int_text (Nat.le_trans (slice_len _ _ _) (Nat.le_trans hx (by decide))) (fun c hc => hcp c (slice_cp hc)) hh (fun n hn => ?_) (fun hn h9 tk9 e9 t9 M9 => ?_)
          · k_steps
            dsimp only
            refine wpC_any ?_
            k_steps
            · rename (_ : Int) ≠ 0 => q3
              have hne : ¬ ((nextS x (pos + 2)).length = 0 ∨ (1 : Nat) = 0) := fun q => q.elim (fun e => q3 (congrArg Int.ofNat e)) (by decide)
              have hsp : sepP x 1 pos false = false := rfl
              have hon := goP_on (cs := [c0]) (n := 1) (sep := false) hlong hn hne (fun z => by cases z.1)
              rw [hsp] at hon
              (with_reducible rename Fr _ _ _ _ => FE)
              (with_reducible rename News _ _ _ _ => NE)
              dsimp only [JPostB]
              refine JEnd.intro ((lc, _) :: news) FE NE (.tail _ (.head _)) (List.forall_mem_cons.mpr ⟨.head _, fun p hp => .tail _ (.tail _ hp)⟩) (List.forall_mem_cons.mpr ⟨hcI, hIn⟩) ⟨c0, n, 0, _, _, _, _, _, _, _, false, rfl, rfl, rfl, rfl, rfl, fun _ => rfl, fun h => by first | rfl | exact absurd h (by decide), fun h => by first | rfl | exact absurd h (by decide), fun h => by first | rfl | exact absurd h (by decide), ?_, ?_, hgo.trans hon⟩
              all_goals (first | omega | (split <;> omega))
            · (with_reducible rename Fr _ _ _ _ => FE)
              (with_reducible rename News _ _ _ _ => NE)
              (try dsimp only)
              dsimp only [JPostB]
              refine ⟨_, _, _, (lc, _) :: news, rfl, FE, news_sub NE (List.forall_mem_cons.mpr ⟨.head _, fun p hp => .tail _ (.tail _ hp)⟩), c0, n, 0, _, _, _, _, _, _, _, [c0, n], rfl, rfl, rfl, rfl, rfl, ?_, ?_, hgo.trans (goP_stop (cs := [c0]) (n := 1) (sep := false) hlong hn (Or.inl (Int.ofNat.inj (by assumption)))), rfl⟩
              all_goals omega
          · k_steps
            (with_reducible rename RaisedS _ _ _ _ _ _ _ _ _ => R3)
            (with_reducible rename Heap.UpToSlots _ _ => U3)
            exact hbad _ _ _ _ _ _ _ (parseP_err (hgo.trans (goP_bad hlong hn))) FG' (raisedS_sub R3 (fun p hp => .tail _ (.tail _ hp))) U3
      · refine wpC_execs_cons (wpC_any ?_)
        k_steps
        · (with_reducible rename RaisedS _ _ _ _ _ _ _ _ _ => R3)
          (with_reducible rename Heap.UpToSlots _ _ => U3)
          exact hbad _ _ _ _ _ _ _ (parseP_err (hgo.trans (goP_short (by assumption)))) FG' (raisedS_sub R3 (fun p hp => .tail _ (.tail _ hp))) U3
        · dsimp only
          rename ¬ (_ - pos < 2) => hlong
          refine wpC_execs_cons (wpC_Assign_Sub (wpC_Call_Name ?_))
          k_steps
          refine wpC_callWith_type ?_
          k_steps
          refine call_int_text (Nat.le_trans (slice_len _ _ _) (Nat.le_trans hx (by decide))) (fun c hc => hcp c (slice_cp hc)) hh (fun n hn => ?_) (fun hn h9 tk9 e9 t9 M9 => ?_)
          · k_steps
            dsimp only
            refine wpC_any ?_
            k_steps
            · rename (_ : Int) ≠ 0 => q3
              rename (_ != _) = true => q2
              obtain ⟨ch, hch⟩ := next_one (x := x) (p := pos + 2) (by omega) (fun e => q3 (congrArg Int.ofNat e))
              have hne : ¬ ((nextS x (pos + 2)).length = 0 ∨ (1 : Nat) = 0) := fun q => q.elim (fun e => q3 (congrArg Int.ofNat e)) (by decide)
              have hse := goP_sep (cs := [c0]) (n := 1) (sep := true) hlong hn hne rfl q2
              rw [hch] at hse
              rw [show Txt.slice x (some (pos + 2)) (some (pos + 2 + 1)) = ⟨#[ch]⟩ from hch]
              refine mod_c fun t' k' => ?_
              k_steps
              (with_reducible rename RaisedS _ _ _ _ _ _ _ _ _ => R3)
              (with_reducible rename Heap.UpToSlots _ _ => U3)
              exact hbad _ _ _ _ _ _ _ (parseP_err (hgo.trans (hse))) FG' (raisedS_sub R3 (fun p hp => .tail _ (.tail _ hp))) U3
            · rename (_ : Int) ≠ 0 => q3
              have hne : ¬ ((nextS x (pos + 2)).length = 0 ∨ (1 : Nat) = 0) := fun q => q.elim (fun e => q3 (congrArg Int.ofNat e)) (by decide)
              rename (_ != _) = false => q2
              have hsp : sepP x 1 pos true = true := rfl
              have hon := goP_on (cs := [c0]) (n := 1) (sep := true) hlong hn hne (fun z => by have z2 := z.2; unfold nextS at z2; rw [q2] at z2; cases z2)
              rw [hsp] at hon
              (with_reducible rename Fr _ _ _ _ => FE)
              (with_reducible rename News _ _ _ _ => NE)
              dsimp only [JPostB]
              refine JEnd.intro ((lc, _) :: news) FE NE (.tail _ (.head _)) (List.forall_mem_cons.mpr ⟨.head _, fun p hp => .tail _ (.tail _ hp)⟩) (List.forall_mem_cons.mpr ⟨hcI, hIn⟩) ⟨c0, n, 0, _, _, _, _, _, _, _, true, rfl, rfl, rfl, rfl, rfl, fun _ => rfl, fun h => by first | rfl | exact absurd h (by decide), fun h => by first | rfl | exact absurd h (by decide), fun h => by first | rfl | exact absurd h (by decide), ?_, ?_, hgo.trans hon⟩
              all_goals (first | omega | (split <;> omega))
            · (with_reducible rename Fr _ _ _ _ => FE)
              (with_reducible rename News _ _ _ _ => NE)
              (try dsimp only)
              dsimp only [JPostB]
              refine ⟨_, _, _, (lc, _) :: news, rfl, FE, news_sub NE (List.forall_mem_cons.mpr ⟨.head _, fun p hp => .tail _ (.tail _ hp)⟩), c0, n, 0, _, _, _, _, _, _, _, [c0, n], rfl, rfl, rfl, rfl, rfl, ?_, ?_, hgo.trans (goP_stop (cs := [c0]) (n := 1) (sep := true) hlong hn (Or.inl (Int.ofNat.inj (by assumption)))), rfl⟩
              all_goals omega
          · k_steps
            (with_reducible rename RaisedS _ _ _ _ _ _ _ _ _ => R3)
            (with_reducible rename Heap.UpToSlots _ _ => U3)
            exact hbad _ _ _ _ _ _ _ (parseP_err (hgo.trans (goP_bad hlong hn))) FG' (raisedS_sub R3 (fun p hp => .tail _ (.tail _ hp))) U3
    · obtain rfl : zi = 2 := hzi
      obtain rfl := hz2 (by decide)
      have em₁ := known4 hk4 hk1 hk2 hk3
      rw [em₁] at F2
      clear em₁ hk1 hk2 hk3 hk4 hk5
      refine wpC_execs_cons (wpC_any ?_)
      k_steps
      · (with_reducible rename RaisedS _ _ _ _ _ _ _ _ _ => R3)
        (with_reducible rename Heap.UpToSlots _ _ => U3)
        exact hbad _ _ _ _ _ _ _ (parseP_err (hgo.trans (goP_short (by assumption)))) FG' (raisedS_sub R3 (fun p hp => .tail _ (.tail _ hp))) U3
      · dsimp only
        rename ¬ (_ - pos < 2) => hlong
        refine wpC_execs_cons (wpC_Assign_Sub (wpC_Call_Name ?_))
        k_steps
        refine wpC_callWith_type ?_
        k_steps
        refine call_int_text (Nat.le_trans (slice_len _ _ _) (Nat.le_trans hx (by decide))) (fun c hc => hcp c (slice_cp hc)) hh (fun n hn => ?_) (fun hn h9 tk9 e9 t9 M9 => ?_)
        · k_steps
          dsimp only
          refine wpC_any ?_
          k_steps
          · (with_reducible rename Fr _ _ _ _ => FE)
            (with_reducible rename News _ _ _ _ => NE)
            (try dsimp only)
            dsimp only [JPostB]
            refine ⟨_, _, _, (lc, _) :: news, rfl, FE, news_sub NE (List.forall_mem_cons.mpr ⟨.head _, fun p hp => .tail _ (.tail _ hp)⟩), c0, c1, n, _, _, _, _, _, _, _, [c0, c1, n], rfl, rfl, rfl, rfl, rfl, ?_, ?_, hgo.trans (goP_stop (cs := [c0, c1]) (n := 0) (sep := sep) hlong hn (Or.inr rfl)), rfl⟩
            all_goals omega
          · (with_reducible rename Fr _ _ _ _ => FE)
            (with_reducible rename News _ _ _ _ => NE)
            (try dsimp only)
            dsimp only [JPostB]
            refine ⟨_, _, _, (lc, _) :: news, rfl, FE, news_sub NE (List.forall_mem_cons.mpr ⟨.head _, fun p hp => .tail _ (.tail _ hp)⟩), c0, c1, n, _, _, _, _, _, _, _, [c0, c1, n], rfl, rfl, rfl, rfl, rfl, ?_, ?_, hgo.trans (goP_stop (cs := [c0, c1]) (n := 0) (sep := sep) hlong hn (Or.inr rfl)), rfl⟩
            all_goals omega
        · k_steps
          (with_reducible rename RaisedS _ _ _ _ _ _ _ _ _ => R3)
          (with_reducible rename Heap.UpToSlots _ _ => U3)
          exact hbad _ _ _ _ _ _ _ (parseP_err (hgo.trans (goP_bad hlong hn))) FG' (raisedS_sub R3 (fun p hp => .tail _ (.tail _ hp))) U3
  · rintro m nw ⟨c0, c1, c2, t0, t1, t2, t3, c, pos, tp, sep, rfl, hk1, hk2, hk3, hk4, hk5, hz0, hz1, hz2, hlo, hhi, hgo⟩
    exact ⟨c0, c1, c2, t0, t1, t2, t3, c, pos, tp, _, rfl, hk1, hk2, hk3, hk4, hlo, by omega, hgo, rfl⟩
  · rintro m' nw h tk ⟨c0, c1, c2, t0, t1, t2, t3, c, pos, tp, cs, rfl, hk1, hk2, hk3, hk4, hlo, hhi, hgo, hcs⟩ F2 N2
    have em₁ := known4 hk4 hk1 hk2 hk3
    rw [em₁] at F2
    clear em₁ hk1 hk2 hk3 hk4
    have hlt' := news_lt N2
    simp only [AllLt] at hlt'
    clear F1 N1 R1
    (try dsimp only)
    refine wpC_execs_cons (wpC_If ?_)
    k_steps
    all_goals (try dsimp only)
    all_goals (try simp only [if_true, Bool.false_eq_true, if_false])
    · rename (_ : Int) < _ => hpl
      refine wpC_execs_cons (wpC_If ?_)
      k_steps
      all_goals (try dsimp only)
      all_goals (try simp only [if_true, Bool.false_eq_true, if_false])
      · rename List.isEmpty _ = true => hmk
        refine wpC_execs_cons (wpC_any ?_)
        k_steps
        (with_reducible rename RaisedS _ _ _ _ _ _ _ _ _ => R3)
        (with_reducible rename Heap.UpToSlots _ _ => U3)
        exact hbad _ _ _ _ _ _ _ ((parseP_ok hgo hcs).trans (tail_mark hpl hmk)) FG' (raisedS_sub R3 (fun p hp => by first | exact .tail _ hp | exact .tail _ (.tail _ hp) | exact .tail _ (.tail _ (.tail _ hp)) | exact .tail _ (.tail _ (.tail _ (.tail _ hp))) | exact .tail _ (.tail _ (.tail _ (.tail _ (.tail _ hp)))))) U3
      · rename List.isEmpty _ = false => hmk
        refine wpC_execs_cons (wpC_any ?_)
        k_steps
        dsimp only
        refine wpC_execs_cons (wpC_any ?_)
        k_steps
        (with_reducible rename Fr _ _ _ _ => F3)
        (with_reducible rename News _ _ _ _ => N3)
        refine map_str F3 N3 fun h4 I4 F4 N4 ho4 => ?_
        dsimp only
        k_steps
        (with_reducible rename Fr _ _ _ _ => F5)
        (with_reducible rename News _ _ _ _ => N5)
        refine all_map B' F5 X' T' (Around.frames_deeper B'.stack) rfl rfl ?hr6 hh N5 (fun p hp => Nat.ne_of_lt (ho4 p hp)) fun h6 tk6 F6 N6 => ?_
        case hr6 =>
          have hr : A.depth + 1 + 10 < recursionLimit := by omega
          exact hr
        dsimp only
        k_steps
        · rename List.all _ _ = true => hdg
          dsimp only
          refine wpC_execs_cons (wpC_any ?_)
          k_steps
          dsimp only
          obtain ⟨rem, hrem⟩ : ∃ rem : Int, rem = (x.length : Int) - (pos + 1) := ⟨_, rfl⟩
          (with_reducible rename Fr _ _ _ _ => F7)
          rw [← hrem] at F7
          refine wpC_execs_cons (wpC_any ?_)
          k_steps
          all_goals dsimp only
          · refine wpC_execs_cons (wpC_Assign_Sub (wpC_Call_Name ?_))
            k_steps
            refine wpC_callWith_type ?_
            k_steps
            refine call_int_text (Nat.le_trans (slice_len _ _ _) (Nat.le_trans hx (by decide))) (fun c hc => hcp c (slice_cp hc)) hh (fun n hn => ?_) (fun hn h9 tk9 e9 t9 M9 => ?_)
            · k_steps
              dsimp only
              refine wpC_any ?_
              k_steps
              dsimp only
              refine wpC_execs_nil ?_
              dsimp only
              refine wpC_execs_cons (wpC_any ?_)
              k_steps
              (with_reducible rename Fr h₀ L _ m => FE)
              (with_reducible rename News h₀ L _ _ => NE)
              exact hok _ _ _ _ _ _ _ _ _ _ _ _ ((parseP_ok hgo hcs).trans ((tail_six hpl hmk hdg (by omega)).trans (show numP x c0 c1 c2 1 _ _ = .ok [c0, c1, c2, n] from by unfold numP; rw [hn]; dsimp only; rw [Int.mul_one]))) FE (news_sub NE (List.forall_mem_cons.mpr ⟨by first | exact .head _ | exact .tail _ (.head _) | exact .tail _ (.tail _ (.head _)) | exact .tail _ (.tail _ (.tail _ (.head _))) | exact .tail _ (.tail _ (.tail _ (.tail _ (.head _)))), fun p hp => by first | exact .tail _ hp | exact .tail _ (.tail _ hp) | exact .tail _ (.tail _ (.tail _ hp)) | exact .tail _ (.tail _ (.tail _ (.tail _ hp))) | exact .tail _ (.tail _ (.tail _ (.tail _ (.tail _ hp))))⟩)) hD1
            · k_steps
              (with_reducible rename RaisedS _ _ _ _ _ _ _ _ _ => R3)
              (with_reducible rename Heap.UpToSlots _ _ => U3)
              exact hbad _ _ _ _ _ _ _ ((parseP_ok hgo hcs).trans ((tail_six hpl hmk hdg (by omega)).trans (by unfold numP; rw [hn]))) FG' (raisedS_sub R3 (fun p hp => by first | exact .tail _ hp | exact .tail _ (.tail _ hp) | exact .tail _ (.tail _ (.tail _ hp)) | exact .tail _ (.tail _ (.tail _ (.tail _ hp))) | exact .tail _ (.tail _ (.tail _ (.tail _ (.tail _ hp)))))) U3
          · have hrb : 0 ≤ rem ∧ rem ≤ 5 := by omega
            refine wpC_execs_cons (wpC_Assign_Sub (wpC_Call_Name ?_))
            k_steps
            refine wpC_callWith_type ?_
            k_steps
            refine call_int_text (Nat.le_trans (slice_len _ _ _) (Nat.le_trans hx (by decide))) (fun c hc => hcp c (slice_cp hc)) hh (fun n hn => ?_) (fun hn h9 tk9 e9 t9 M9 => ?_)
            · have hr0 : rem ≠ 0 := fun e => by
                rw [e, slice_zero (by omega)] at hn
                cases hn
              have hfc := fcP_le rem
              k_steps
              dsimp only
              refine wpC_any ?_
              k_steps
              obtain ⟨oF, hF1, hF2, tF1, tF2, tF3, tF4, tF5, cF, hF3⟩ := fc22 X'
              obtain ⟨tF, hF⟩ : ∃ tF, #[Value.int 100000 tF1, .int 10000 tF2, .int 1000 tF3, .int 100 tF4, .int 10 tF5][(rem - 1).toNat]? = some (.int (fcP rem) tF) := by
                have h5 : rem = 1 ∨ rem = 2 ∨ rem = 3 ∨ rem = 4 ∨ rem = 5 := by omega
                rcases h5 with e | e | e | e | e <;> rw [e] <;> exact ⟨_, rfl⟩
              (with_reducible rename Fr _ _ _ _ => FS)
              refine PyProof.Rows.item_list (x := .int (fcP rem) tF) ⟨oF, FS.keep _ _ hF1, hF2, cF, hF3⟩ (by omega) (by omega) hF ?_ (by with_unfolding_all rfl) (by intro _; with_unfolding_all rfl)
              k_steps
              dsimp only
              refine wpC_execs_nil ?_
              dsimp only
              refine wpC_execs_cons (wpC_any ?_)
              k_steps
              (with_reducible rename Fr h₀ L _ m => FE)
              (with_reducible rename News h₀ L _ _ => NE)
              exact hok _ _ _ _ _ _ _ _ _ _ _ _ ((parseP_ok hgo hcs).trans ((tail_few hpl hmk hdg (by omega) hrem).trans (show numP x c0 c1 c2 (fcP rem) _ _ = .ok [c0, c1, c2, n * fcP rem] from by unfold numP; rw [hn]))) FE (news_sub NE (List.forall_mem_cons.mpr ⟨by first | exact .head _ | exact .tail _ (.head _) | exact .tail _ (.tail _ (.head _)) | exact .tail _ (.tail _ (.tail _ (.head _))) | exact .tail _ (.tail _ (.tail _ (.tail _ (.head _)))), fun p hp => by first | exact .tail _ hp | exact .tail _ (.tail _ hp) | exact .tail _ (.tail _ (.tail _ hp)) | exact .tail _ (.tail _ (.tail _ (.tail _ hp))) | exact .tail _ (.tail _ (.tail _ (.tail _ (.tail _ hp))))⟩)) hD1
            · k_steps
              (with_reducible rename RaisedS _ _ _ _ _ _ _ _ _ => R3)
              (with_reducible rename Heap.UpToSlots _ _ => U3)
              exact hbad _ _ _ _ _ _ _ ((parseP_ok hgo hcs).trans ((tail_few hpl hmk hdg (by omega) hrem).trans (by unfold numP; rw [hn]))) FG' (raisedS_sub R3 (fun p hp => by first | exact .tail _ hp | exact .tail _ (.tail _ hp) | exact .tail _ (.tail _ (.tail _ hp)) | exact .tail _ (.tail _ (.tail _ (.tail _ hp))) | exact .tail _ (.tail _ (.tail _ (.tail _ (.tail _ hp)))))) U3
        · rename List.all _ _ = false => hdg
          (with_reducible rename RaisedS _ _ _ _ _ _ _ _ _ => R3)
          (with_reducible rename Heap.UpToSlots _ _ => U3)
          exact hbad _ _ _ _ _ _ _ ((parseP_ok hgo hcs).trans (tail_digit hpl hmk hdg)) FG' (raisedS_sub R3 (fun p hp => by first | exact .tail _ hp | exact .tail _ (.tail _ hp) | exact .tail _ (.tail _ (.tail _ hp)) | exact .tail _ (.tail _ (.tail _ (.tail _ hp))) | exact .tail _ (.tail _ (.tail _ (.tail _ (.tail _ hp)))))) U3
    · rename ¬ (_ : Int) < _ => hpl
      refine wpC_execs_nil ?_
      dsimp only
      refine wpC_execs_cons (wpC_any ?_)
      k_steps
      (with_reducible rename Fr h₀ L _ m => FE)
      (with_reducible rename News h₀ L _ _ => NE)
      exact hok _ _ _ _ _ _ _ _ _ _ _ _ ((parseP_ok hgo hcs).trans (tail_end hpl)) FE (news_sub NE (List.forall_mem_cons.mpr ⟨by first | exact .head _ | exact .tail _ (.head _) | exact .tail _ (.tail _ (.head _)) | exact .tail _ (.tail _ (.tail _ (.head _))) | exact .tail _ (.tail _ (.tail _ (.tail _ (.head _)))), fun p hp => by first | exact .tail _ hp | exact .tail _ (.tail _ hp) | exact .tail _ (.tail _ (.tail _ hp)) | exact .tail _ (.tail _ (.tail _ (.tail _ hp))) | exact .tail _ (.tail _ (.tail _ (.tail _ (.tail _ hp))))⟩)) hD1
end
end Mine
end
section
open PySem PySem.W PyProof.Rows PySem.Calls
set_option maxRecDepth 100000
set_option pp.maxSteps 1500
set_option maxHeartbeats 8000000
set_option rowWalk.seconds 0
namespace Mine
inductive HaltS7 : Prop → Prop
  | k0 {M A Q E s a b c} : HaltS7 (wpAny M A (call (Value.ref a) b c) Q E s)
  | k1 {M A Q E s b c} : HaltS7 (wpAny M A (call (Value.builtin "chr") b c) Q E s)
  | k2 {M A Q E s a b c d e f} : HaltS7 (wpAny M A (subscriptTail a b (Value.str c d) (Value.int e f)) Q E s)
  | k3 {M A Q E s a b c e f} : HaltS7 (wpAny M A (subscriptTail a b (Value.ref c) (Value.int e f)) Q E s)
theorem HaltS7.go {p : Prop} (_ : HaltS7 p) (h : p) : p := h
local macro_rules | `(tactic| walk_at "my stop") => `(tactic| fail_if_success (with_reducible refine HaltS7.go (by constructor) ?_))
theorem fm_lt (x : Int) {k : Int} (hk : 0 < k) : 0 ≤ x.fmod k ∧ x.fmod k < k := by
  rw [Int.fmod_eq_emod_of_nonneg _ (by omega)]
  exact ⟨Int.emod_nonneg _ (by omega), Int.emod_lt_of_pos _ hk⟩
theorem fig_table : ∀ k : Fin 10, Txt.item (PySem.Str.ofString "0123456789") (k.1 : Int) = ⟨#[48 + k.1]⟩ := by decide +kernel
theorem fig_item {k : Int} (h0 : 0 ≤ k) (h1 : k < 10) : ∃ c, c < 1114112 ∧ Txt.item (PySem.Str.ofString "0123456789") k = ⟨#[c]⟩ := by
  obtain ⟨j, rfl⟩ := Int.eq_ofNat_of_zero_le h0
  exact ⟨48 + j, by omega, fig_table ⟨j, by omega⟩⟩
section
variable {w : World} {A A₀ : Around} {E : Value → Shared → Prop} {s : Shared} {L : Addr} {h₀ base : Heap} {m mg mb : Str → Option Value} {news : List (Addr × Obj)} {p : Program} {loose : List Str} {mean : ExcName → Option Value} {Q : Value → Shared → Prop} {env : Env} {outer : List Env}
theorem sign7 (B : Below A₀ base outer h₀) (F : Fr h₀ L s.heap m) (X : (hd.heap_39 w.params).In h₀) (N : News h₀ L s.heap news) (T : Top p loose mean mg mb h₀) (hA : A.frames = some (env :: outer)) (hf : env.frame = some L) (hke : env.scope.kind = .function)
  (hroom : A.depth + 20 < recursionLimit) (hh : A.handled = none) {n : Int} {c : Nat} {t u : Tok} (hc : c < 1114112)
  (hok : ∀ h' tk c t', c < 1114112 → Fr h₀ L h' m → News h₀ L h' news → Q (.str ⟨#[c]⟩ t') { s with heap := h', toks := tk }) :
  wpAny (model PySem.Challenge.rw_km0086_07.row.prog w) A (call (.ref 36) [.int n t, .str ⟨#[c]⟩ u]) Q E s := by
  w_top off
  refine wpAny_call ?_
  refine' code_def B F X N T hA hf hke ?k6 ?k7 ?k8 ?k9 ?kB ?_ ?c2 ?c3 ?c4 ?c5
  case k6 => k_is
  case k7 => k_is
  case k8 => k_room
  case k9 => exact BindsTo.of_eq rfl
  case kB => exact locs rfl
  case c2 => exact rfl
  case c3 => exact rfl
  case c4 => exact rfl
  case c5 => decide
  intro g' L' h' FG' F' N' B' X' T'
  (try dsimp only)
  k_steps
  · obtain ⟨b1, b2⟩ := fm_lt (n.fdiv 8) (k := 1112064) (by decide)
    refine chr_of_range b1 (by omega) ?_
    k_steps
    (with_reducible rename Fr h₀ L _ m => FE)
    (with_reducible rename News h₀ L _ _ => NE)
    exact hok _ _ _ _ (by omega) FE NE
  · obtain ⟨b1, b2⟩ := fm_lt (n.fdiv 8) (k := 1112064) (by decide)
    refine chr_of_range (by omega) (by omega) ?_
    k_steps
    (with_reducible rename Fr h₀ L _ m => FE)
    (with_reducible rename News h₀ L _ _ => NE)
    exact hok _ _ _ _ (by omega) FE NE
  · (with_reducible rename Fr h₀ L _ m => FE)
    (with_reducible rename News h₀ L _ _ => NE)
    exact hok _ _ _ _ hc FE NE
  · dsimp only
    obtain ⟨b1, b2⟩ := fm_lt (n.fdiv 8) (k := 10) (by decide)
    obtain ⟨c', hc', e'⟩ := fig_item b1 b2
    generalize (n.fdiv 8).fmod 10 = k at b1 b2 e' ⊢
    refine item_str (fitsSsize_of (N := 9223372036854775808) (by omega) (by omega) (by omega)) (by omega) (show k < 10 from b2) (fun _ => ?_) (by with_unfolding_all rfl) (by intro _; with_unfolding_all rfl)
    rw [e']
    k_steps
    (with_reducible rename Fr h₀ L _ m => FE)
    (with_reducible rename News h₀ L _ _ => NE)
    exact hok _ _ _ _ hc' FE NE
  · dsimp only
    obtain ⟨b1, b2⟩ := fm_lt (n.fdiv 80) (k := 8) (by decide)
    obtain ⟨d1, d2⟩ := fm_lt (n.fdiv 8) (k := 10) (by decide)
    generalize (n.fdiv 80).fmod 8 = k at b1 b2 ⊢
    have hk : k = 0 ∨ k = 1 ∨ k = 2 ∨ k = 3 ∨ k = 4 ∨ k = 5 ∨ k = 6 ∨ k = 7 := by omega
    rcases hk with rfl | rfl | rfl | rfl | rfl | rfl | rfl | rfl
    all_goals (
      refine item_tupleT (News.isTup (by k_asm) (by k_mem)) (by omega) (by omega) (by rfl) (by rfl) ?_
      k_steps
      refine chr_of_range (by omega) (by omega) ?_
      k_steps
      (with_reducible rename Fr h₀ L _ m => FE)
      (with_reducible rename News h₀ L _ _ => NE)
      exact hok _ _ _ _ (by omega) FE (news_sub NE (fun p hp => .tail _ hp)))
end
end Mine
end
section
open PySem PySem.W PyProof.Rows PySem.Calls
local macro_rules | `(tactic| k_all) => `(tactic| (repeat (refine List.forall_mem_cons.mpr ⟨by k_ne, ?_⟩)); first | assumption | exact List.forall_mem_nil _)
section
open PySem PySem.W PyProof.Rows PySem.Calls LCg
set_option maxRecDepth 100000
set_option pp.maxSteps 1500
set_option maxHeartbeats 8000000
set_option rowWalk.seconds 0
namespace Mine
inductive HaltD7 : Prop → Prop
  | k0 {M A Q E s a b} : HaltD7 (wpAny M A (binaryOp Operator.Add (Value.ref a) (Value.ref b)) Q E s)
  | k1 {M A Q E s a b c d} : HaltD7 (wpAny M A (binaryOp Operator.Add (Value.str (figS a) b) (Value.str c d)) Q E s)
  | k2 {M A Q E s b c} : HaltD7 (wpAny M A (call (Value.builtin "min") b c) Q E s)
  | k3 {M A Q E s b c} : HaltD7 (wpAny M A (call (Value.type "int") b c) Q E s)
  | k4 {M A Q E s a b} : HaltD7 (wpAny M A (compareOp CmpOp.NotEq (Value.ref a) (Value.ref b)) Q E s)
  | k5 {M A Q E s a b c e f} : HaltD7 (wpAny M A (subscriptTail a b (Value.ref c) (Value.int e f)) Q E s)
  | k6 {M A Q E s a b c} : HaltD7 (wpAny M A (call (Value.ref a) b c) Q E s)
  | k7 {M A Q E s a b} : HaltD7 (wpAny M A (noteFrame a b) Q E s)
  | k8 {M A Q E s a b c d e} : HaltD7 (wpAny M A (eval (Expr.ListComp a b c d) e) Q E s)
theorem HaltD7.go {p : Prop} (_ : HaltD7 p) (h : p) : p := h
local macro_rules | `(tactic| walk_at "my stop") => `(tactic| fail_if_success (with_reducible refine HaltD7.go (by constructor) ?_))
section
variable {w : World} {A A₀ : Around} {E : Value → Shared → Prop} {s : Shared} {L : Addr} {h₀ base g₀ : Heap} {outer : List Env} {m mg mb : Str → Option Value} {news : List (Addr × Obj)} {p : Program} {loose : List Str} {mean : ExcName → Option Value} {Q : Value → Shared → Prop} {env : Env}
theorem due7 (B : Below A₀ base outer h₀) (F : Fr h₀ L s.heap m) (X : (hd.heap_39 w.params).In h₀) (XB : (hd.heap_39 w.params).In base) (TB : Top p loose mean mg mb base) (N : News h₀ L s.heap news) (T : Top p loose mean mg mb h₀) (D : KtsDicts (outer.filterMap (·.frame)) h₀)
  (T0 : KtsTurn (outer.filterMap (·.frame)) g₀ h₀) (hA : A.frames = some (env :: outer)) (hf : env.frame = some L) (hke : env.scope.kind = .function)
  (hroom : A.depth + 40 < recursionLimit) (hh : A.handled = none) (hu : A.units + 40 < cLine) {x : Str} {t : Tok} (hx : x.length ≤ 100) (hcp : ∀ c ∈ x.cps.toList, c < 16 ^ 8)
  (hok : ∀ g2 h' tk l o, DueIs x o → Gd (outer.filterMap (·.frame)) A₀ base outer (hd.heap_39 w.params) p loose mean mg mb g₀ g2 → Fr g2 L h' m → News g2 L h' ((l, o) :: news) → Q (.ref l) { s with heap := h', toks := tk }) :
  wpC (model PySem.Challenge.rw_km0086_07.row.prog w) A (call (.ref 48) [.str x t]) Q E s := by
  w_top off
  refine wpC_call ?_
  refine' codeC_defCSX B F X N T XB TB D T0 hA hf hke ?k6 ?k7 ?k8 ?k9 ?kB ?kN ?_ ?c2 ?c3 ?c4
  case k6 => k_is
  case k7 => k_is
  case k8 => k_room
  case k9 => exact BindsTo.of_eq rfl
  case kB => exact rfl
  case kN => decide
  case c2 => exact rfl
  case c3 => exact rfl
  case c4 => exact rfl
  intro g' L' h' tk' cells FG' F' N' Y' B' X' T' D' l1
  k_cells Y'
  simp only [List.cons_append, List.nil_append] at N'
  have hlt' := news_lt N'
  simp only [AllLt] at hlt'
  have hnA : ∀ q ∈ news, q.1 ≠ L' + 1 := fun q hq => Nat.ne_of_lt (Nat.lt_succ_of_lt (l1 q hq))
  have hnB : ∀ q ∈ news, q.1 ≠ L' + 1 + 1 := fun q hq => Nat.ne_of_lt (Nat.lt_succ_of_lt (Nat.lt_succ_of_lt (l1 q hq)))
  have hnC : ∀ q ∈ news, q.1 ≠ L' + 1 + 1 + 1 := fun q hq => Nat.ne_of_lt (Nat.lt_succ_of_lt (Nat.lt_succ_of_lt (Nat.lt_succ_of_lt (l1 q hq))))
  have hnD : ∀ q ∈ news, q.1 ≠ L' + 1 + 1 + 1 + 1 := fun q hq => Nat.ne_of_lt (Nat.lt_succ_of_lt (Nat.lt_succ_of_lt (Nat.lt_succ_of_lt (Nat.lt_succ_of_lt (l1 q hq)))))
  (try dsimp only)
  suffices H : ∀ E1, wpC _ _ _ (DueEnd x ((env :: outer).filterMap (·.frame)) A base (env :: outer) (hd.heap_39 w.params) p loose mean mg mb g' L' news s) E1 _ by
    refine wpC_mono (H _) (fun fl s' q => ?_) fun _ _ q => q
    obtain ⟨g, h, tk, m', l, o, rfl, rfl, G, hD, F9, N9⟩ := q
    exact leaveS_r F9 N9 G.turn fun h₀' T3 F3 N3 B3 X3 TT3 D3 => hok h₀' _ _ _ _ hD ⟨T3, B3, X3, TT3, D3⟩ F3 N3
  clear hok
  intro E1
  refine wpC_execs_cons (wpC_any (cutY g' L' (fun _ nw => ∃ oN oP oS oT tS, nw = (L' + 1 + 1 + 1 + 1, oN) :: (L' + 1 + 1 + 1, oP) :: (L' + 1 + 1, oS) :: (L' + 1, oT) :: news ∧ oS.data = .cell (some (.int (stepD x) tS)) ∧ oT.data = .cell (some (.str x t)) ∧ oP.data = .cell none ∧ oN.data = .cell none) (fun E' => ?_) ?_))
  · k_steps
    · rename (_ == _) = true => hq
      (with_reducible rename Fr g' _ _ _ => FE)
      (with_reducible rename News g' _ _ _ => NE)
      rename Obj.data _ = Data.cell (some (Value.int _ _)) => dS
      have e3 : stepD x = 3 := if_pos hq
      exact ⟨rfl, _, _, _, _, rfl, FE, NE, _, _, _, _, _, rfl, by rw [e3]; exact dS, by assumption, by assumption, by assumption⟩
    · rename (_ == _) = false => hq
      (with_reducible rename Fr g' _ _ _ => FE)
      (with_reducible rename News g' _ _ _ => NE)
      rename Obj.data _ = Data.cell (some (Value.int _ _)) => dS
      have e2 : stepD x = 2 := if_neg (fun z => by rw [hq] at z; cases z)
      exact ⟨rfl, _, _, _, _, rfl, FE, NE, _, _, _, _, _, rfl, by rw [e2]; exact dS, by assumption, by assumption, by assumption⟩
  clear F' N' hlt'
  rintro h2 tk2 m2 nw2 F2 N2 ⟨oN, oP, oS, oT, tS, rfl, dS, dT, dP, dN⟩
  refine wpC_execs_cons (wpC_any (cutY g' L' (fun m' nw => ∃ lb ys, m' ("begun" : Str) = some (.ref lb) ∧ nw = (lb, lst ys) :: (L' + 1 + 1 + 1 + 1, oN) :: (L' + 1 + 1 + 1, oP) :: (L' + 1 + 1, oS) :: (L' + 1, oT) :: news ∧ IntsAre ys ((upto 3).filter (begQ x)) ∧ Off1 lb ((L' + 1 + 1 + 1 + 1, oN) :: (L' + 1 + 1 + 1, oP) :: (L' + 1 + 1, oS) :: (L' + 1, oT) :: news)) (fun E' => ?_) ?_))
  · refine LCt.Assign_ListComp_T F2 rfl (by with_unfolding_all rfl) (by with_unfolding_all rfl) (by decide) (by with_unfolding_all rfl) (by decide) (by with_unfolding_all rfl) (by with_unfolding_all rfl) (by with_unfolding_all rfl) ?_ (by intro _; with_unfolding_all rfl)
    k_steps
    rename IsRange _ _ _ _ _ _ _ _ => R2
    (with_reducible rename Fr g' _ _ _ => FY)
    (with_reducible rename News g' _ _ _ => NY)
    refine LCt.CompSrcT.range hh FY NY R2 (by decide +kernel) (by decide +kernel) (Nat.le_of_ble_eq_true rfl) (fun gY => compRestT_range (n := 3) (begQ x) ?_ (by with_unfolding_all rfl) (by with_unfolding_all rfl) (by decide) ?_ 3 0 [] rfl .nil)
    · intro ys hys D7 h7 tk7 F7 N7 o7
      exact ⟨rfl, _, _, _, _, rfl, F7, N7, _, _, rfl, rfl, hys, o7⟩
    · intro i t ys I oI C oC D m₂ h tk E' hi hC hm FC NC
      clear FY NY R2
      have hi' : i = 0 ∨ i = 1 ∨ i = 2 := by omega
      rcases hi' with rfl | rfl | rfl
      all_goals (
        k_steps
        all_goals (
          (try dsimp only)
          (with_reducible rename Fr g' _ _ _ => FT)
          (with_reducible rename News g' _ _ _ => NT)
          refine TestIs.intro ?_ FT NT (fun p hp => hp)
          first
            | rfl
            | (unfold begQ; rw [decide_eq_true (by assumption)]; rfl)
            | (unfold begQ; rw [decide_eq_false (by assumption)]; rfl)))
  clear F2 N2
  rintro h3 tk3 m3 nw3 F3 N3 ⟨lb, ys, kb, rfl, hys, olb⟩
  obtain ⟨hb3, hb2⟩ := beg_le x
  obtain ⟨bs, ebs⟩ : ∃ bs, bs = (upto 3).filter (begQ x) := ⟨_, rfl⟩
  rw [← ebs] at hys hb3 hb2
  rw [map_at kb] at F3
  have hlt3 := news_lt N3
  simp only [AllLt] at hlt3
  refine wpC_execs_cons (wpC_any (cutY g' L' (fun m' nw => ∃ lp zs oP', m' ("begun" : Str) = some (.ref lb) ∧ nw = (lp, lst zs) :: (lb, lst ys) :: (L' + 1 + 1 + 1 + 1, oN) :: (L' + 1 + 1 + 1, oP') :: (L' + 1 + 1, oS) :: (L' + 1, oT) :: news ∧ oP'.data = .cell (some (.ref lp)) ∧ StrsAre zs (bs.map fun b => pairS x (b * stepD x))) (fun E' => ?_) ?_))
  · k_steps
    (with_reducible rename Fr g' _ _ _ => FL)
    (with_reducible rename News g' _ _ _ => NL)
    refine ListComp_listJ FL (by with_unfolding_all rfl) (by decide) (by with_unfolding_all rfl) (by decide) (by with_unfolding_all rfl) (by intro _; with_unfolding_all rfl) ?_
    k_steps
    (with_reducible rename Fr g' _ _ _ => FW)
    (with_reducible rename News g' _ _ _ => NW)
    refine nmN NW ?_
    intro nwb enb
    rw [← enb] at NW
    refine ⟨fun i zs nw => nw = nwb ∧ StrsAre zs ((bs.take i).map fun b => pairS x (b * stepD x)), _, ys.toArray, _, nwb, rfl, hh, FW, NW, ?_, ⟨rfl, .nil⟩, fun i zs nw q => by rw [q.1, enb]; exact .head _, ?_, ?_⟩
    · rw [List.size_toArray, hys.length]
      exact Nat.le_trans hb3 (by decide)
    · rintro i v zs nw I oI C oC D m₂ h tk E' hv ⟨rfl, hO⟩ hC hm2 FC NC off dist
      obtain ⟨b, tb, rfl, hbi⟩ : ∃ n t, v = .int n t ∧ bs[i]? = some n := by
        have hv' : ys[i]? = some v := by simpa using hv
        obtain ⟨n, hn⟩ : ∃ n, bs[i]? = some n := by
          have := (List.getElem?_eq_some_iff.mp hv').1
          rw [hys.length] at this
          exact ⟨_, List.getElem?_eq_getElem this⟩
        obtain ⟨t, e⟩ := hys.get i n hn
        rw [hv'] at e
        exact ⟨n, t, Option.some.inj e, hn⟩
      subst enb
      have hlt2 := news_lt NC
      simp only [AllLt] at hlt2
      clear FW NW
      have hbb := hb2 b (List.mem_of_getElem? hbi)
      have hst := stepD_or x
      k_steps
      (with_reducible rename Fr g' _ _ _ => FT)
      (with_reducible rename News g' _ _ _ => NT)
      refine CompEnd.intro FT NT _ (fun p hp => hp) off trivial ⟨rfl, ?_⟩
      rw [List.take_add_one, hbi, List.map_append]
      exact strs_snoc hO _ _
    · rintro D6 h6 tk6 zs nw F6 N6 o6 ⟨rfl, hO⟩
      subst enb
      have hlt6 := news_lt N6
      simp only [AllLt] at hlt6
      simp only [Off1] at o6 olb
      k_steps
      (with_reducible rename Fr g' _ _ _ => FE)
      (with_reducible rename News g' _ _ _ => NE)
      rename Obj.data _ = Data.cell (some (Value.ref _)) => dP'
      rw [show ys.toArray.size = bs.length from hys.length, List.take_length] at hO
      exact ⟨rfl, _, _, _, _, rfl, FE, NE, _, _, _, rfl, rfl, dP', hO⟩
  clear F3 N3
  rintro h4 tk4 m4 nw4 F4 N4 ⟨lp, zs, oP', kb4, rfl, dP', hzs⟩
  rw [map_at kb4] at F4
  have hlt4 := news_lt N4
  simp only [AllLt] at hlt4
  refine wpC_execs_cons (wpC_Assign_Name ?_)
  refine ListComp_turnC F4 (by with_unfolding_all rfl) (by decide) (by with_unfolding_all rfl) (by decide) (by with_unfolding_all rfl) (by intro _; with_unfolding_all rfl) ?_
  k_steps
  (with_reducible rename Fr g' _ _ _ => FC)
  (with_reducible rename News g' _ _ _ => NC)
  refine ⟨fun i vs g nw => vs.length = i ∧ Gd ((env :: outer).filterMap (·.frame)) A base (env :: outer) (hd.heap_39 w.params) p loose mean mg mb g' g ∧ ∃ ts, nw = (lp, lst zs) :: (lb, lst ys) :: (L' + 1 + 1 + 1 + 1, oN) :: (L' + 1 + 1 + 1, oP') :: (L' + 1 + 1, oS) :: (L' + 1, oT) :: (ts ++ news) ∧ TupsAre ts ∧ NumsAre ts vs ((bs.take i).map fun b => pairS x (b * stepD x)),
    lp, zs.toArray, zs.length, (lp, lst zs) :: (lb, lst ys) :: (L' + 1 + 1 + 1 + 1, oN) :: (L' + 1 + 1 + 1, oP') :: (L' + 1 + 1, oS) :: (L' + 1, oT) :: news, rfl, hh, FC, NC, ?_, ⟨rfl, ⟨KtsTurn.refl, B', X', T', D'⟩, [], rfl, (fun _ h => nomatch h), rfl, fun k q h => by simp at h⟩, ?_, ?_, ?_⟩
  · rw [List.size_toArray, hzs.length, List.length_map]
    exact Nat.le_trans hb3 (by decide)
  · rintro i vs g nw ⟨e, _, ts, rfl, _⟩
    exact ⟨e, .head _⟩
  · rintro i v vs g nw I oI C oC D m₂ h tk E' hi hv ⟨hvl, G, ts, rfl, hts, hns⟩ hcI hC hm2 FT NT off dist
    clear FC NC
    obtain ⟨q, tq, rfl, hqi⟩ := hzs.item i v (by simpa using hv)
    have hql : q.length ≤ 100 ∧ ∀ c ∈ q.cps.toList, c < 16 ^ 8 := by
      rw [List.getElem?_map] at hqi
      obtain ⟨b, _, rfl⟩ := Option.map_eq_some_iff.mp hqi
      exact ⟨Nat.le_trans (slice_len _ _ _) hx, fun c hc => hcp c (slice_cp hc)⟩
    have XG := G.inK
    have TG := G.top
    refine wpC_Call_Name ?_
    k_steps
    have h43 := XG 43 _ (by k_is)
    refine wpC_callWith_fun (hdat := (show Obj.data _ = .func _ from rfl)) (wpAny_mono (Q := fun vs s₂ => (∀ b o, g.get? b = some o → s₂.heap.get? b = some o) ∧ wpC _ _ (call (.ref 43) vs) _ _ s₂) ?_ (fun vs s₁ q => ⟨q.1 _ _ h43, q.2⟩) fun _ _ q => q)
    k_steps
    (with_reducible rename Fr g _ _ _ => FQ)
    (with_reducible rename News g _ _ _ => NQ)
    refine read7 G.below FQ XG XB TB NQ TG G.dicts G.turn (Around.frames_deeper B'.stack) rfl rfl ?hr1 hh ?hu1 hql.1 hql.2 ?_ ?_
    case hr1 =>
      have hr : A.depth + 1 + 30 < recursionLimit := by omega
      exact hr
    case hu1 => walk_at "units"
    · intro h9 tk9 n9 t9 hn9 F9 N9
      refine ⟨g, h9, tk9, _, rfl, F9, N9, off, by simp [hvl], G, ts, rfl, hts, ?_⟩
      rw [List.getElem?_map] at hqi
      obtain ⟨b, hbi, rfl⟩ := Option.map_eq_some_iff.mp hqi
      rw [List.take_add_one, hbi, List.map_append]
      exact hns.snoc (fun _ h => h) (.inl ⟨n9, t9, hn9, rfl⟩)
    · intro g9 h9 tk9 l9 t9 o9 c9 hn9 hc9 hd9 T9 F9 N9 B9 X9 TT9 D9
      have off' := off.mem
      refine ⟨g9, h9, tk9, _, rfl, F9, ?_, Off3.of ?_, by simp [hvl], ⟨T9, B9, X9, TT9, D9⟩, (l9, o9) :: ts, rfl, ?_, ?_⟩
      · refine news_sub N9 fun z hz => ?_
        simp only [List.cons_append, List.mem_cons] at hz ⊢
        rcases hz with h | h | h | h | h | h | h | h | h | h | h <;> simp [h]
      · intro z hz
        simp only [List.cons_append, List.mem_cons] at hz
        have hin : z = (l9, o9) ∨ z ∈ (lp, lst zs) :: (lb, lst ys) :: (L' + 1 + 1 + 1 + 1, oN) :: (L' + 1 + 1 + 1, oP') :: (L' + 1 + 1, oS) :: (L' + 1, oT) :: (ts ++ news) := by
          simp only [List.mem_cons]
          rcases hz with h | h | h | h | h | h | h | h <;> simp [h]
        rcases hin with rfl | hin
        · refine ⟨news_ne N9 (.head _) (.tail _ (.head _)) fun e => ?_, news_ne N9 (.head _) (.tail _ (.tail _ (.head _))) fun e => ?_, news_ne N9 (.head _) (.tail _ (.tail _ (.tail _ (.head _)))) fun e => ?_⟩
          · rw [e, hcI] at hc9
            revert hc9
            decide
          · obtain ⟨es, ep, hdC, _⟩ := hC
            rw [e, hdC] at hd9
            cases hd9
          · rw [e] at hc9
            revert hc9
            show Value.type "list" = Value.type "tuple" → False
            decide
        · exact off' z hin
      · intro z hz
        rcases List.mem_cons.mp hz with rfl | hz
        · exact ⟨hc9, _, _, hd9⟩
        · exact hts z hz
      · rw [List.getElem?_map] at hqi
        obtain ⟨b, hbi, rfl⟩ := Option.map_eq_some_iff.mp hqi
        rw [List.take_add_one, hbi, List.map_append]
        exact hns.snoc (fun _ h => .tail _ h) (.inr ⟨hn9, l9, o9, t9, c9, rfl, .head _, hc9, hd9⟩)
  · rintro ln g h5 tk5 vs nw F5 N5 o5 ⟨hvl, G, ts, rfl, hts, hns⟩
    clear FC NC
    rw [show zs.toArray.size = bs.length by rw [List.size_toArray, hzs.length, List.length_map], List.take_length] at hns
    have hr : ∀ (a : Addr) (o : Obj), (a, o) ∈ (ln, lst vs) :: (lp, lst zs) :: (lb, lst ys) :: (L' + 1 + 1 + 1 + 1, oN) :: (L' + 1 + 1 + 1, oP') :: (L' + 1 + 1, oS) :: (L' + 1, oT) :: (ts ++ news) → (∀ its c, o.data ≠ .seq its c) → (∀ q ∈ news, q.1 ≠ a) → ∀ q ∈ ts ++ news, q.1 ≠ a := by
      intro a o ha hd hn q hq
      rcases List.mem_append.mp hq with hq' | hq'
      · obtain ⟨_, its, c, e⟩ := hts q hq'
        refine news_ne N5 (List.mem_append_right [(ln, lst vs), (lp, lst zs), (lb, lst ys), (L' + 1 + 1 + 1 + 1, oN), (L' + 1 + 1 + 1, oP'), (L' + 1 + 1, oS), (L' + 1, oT)] hq) ha fun z => hd its c ?_
        rw [← z]
        exact e
      · exact hn q hq'
    have hrA := hr (L' + 1) oT (by simp) (fun _ _ e => by rw [dT] at e; cases e) hnA
    have hrB := hr (L' + 1 + 1) oS (by simp) (fun _ _ e => by rw [dS] at e; cases e) hnB
    have hrC := hr (L' + 1 + 1 + 1) oP' (by simp) (fun _ _ e => by rw [dP'] at e; cases e) hnC
    have hrD := hr (L' + 1 + 1 + 1 + 1) oN (by simp) (fun _ _ e => by rw [dN] at e; cases e) hnD
    clear hr
    have hsub : ∀ q ∈ ts ++ news, q ∈ ts ++ news := fun _ h => h
    generalize hrest : ts ++ news = rest at N5 o5 hrA hrB hrC hrD
    have hlt5 := news_lt N5
    simp only [AllLt] at hlt5
    simp only [Off1] at o5 olb
    dsimp only
    have XG := G.inK
    have TG := G.top
    have hlpD : (@Ne Nat lp (L' + 1 + 1 + 1 + 1)) := news_ne N5 (.tail _ (.head _)) (.tail _ (.tail _ (.tail _ (.head _)))) fun e => by
      have q := congrArg Obj.data e
      rw [dN] at q
      cases q
    refine cutU g L' (fun m' nw => m' "begun" = some (.ref lb) ∧ ∃ oN', nw = (ln, lst vs) :: (lp, lst zs) :: (lb, lst ys) :: (L' + 1 + 1 + 1 + 1, oN') :: (L' + 1 + 1 + 1, oP') :: (L' + 1 + 1, oS) :: (L' + 1, oT) :: rest ∧ oN'.data = .cell (some (.ref ln))) (fun E' => ?_) ?_
    · k_steps
      (with_reducible rename Fr g _ _ _ => FE)
      (with_reducible rename News g _ _ _ => NE)
      rename Obj.data _ = Data.cell (some (Value.ref ln)) => dN'
      exact ⟨rfl, _, _, _, _, rfl, FE, NE, if_pos rfl, _, rfl, dN'⟩
    clear F5 N5 hlt3 hlt4 o5 olb hlpD hlt5
    rintro h6 tk6 m6 nw6 F6 N6 ⟨kb6, oN', rfl, dN'⟩
    have hlt6 := news_lt N6
    simp only [AllLt] at hlt6
    have hst := stepD_or x
    refine wpC_execs_cons (wpC_any (cutY g L' (fun m' nw => m' "begun" = some (.ref lb) ∧ (∃ t, m' "mark" = some (.str (markS x) t)) ∧ nw = (ln, lst vs) :: (lp, lst zs) :: (lb, lst ys) :: (L' + 1 + 1 + 1 + 1, oN') :: (L' + 1 + 1 + 1, oP') :: (L' + 1 + 1, oS) :: (L' + 1, oT) :: rest) (fun E' => ?_) ?_))
    · k_steps
      (with_reducible rename Fr g _ _ _ => FE)
      (with_reducible rename News g _ _ _ => NE)
      exact ⟨rfl, _, _, _, _, rfl, FE, news_sub NE (fun p hp => by first | exact hp | exact .tail _ hp | exact .tail _ (.tail _ hp)), (if_neg (by decide)).trans kb6, ⟨_, if_pos rfl⟩, rfl⟩
    clear F6 N6
    rintro h7 tk7 m7 nw7 F7 N7 ⟨kb7, ⟨tm, km7⟩, rfl⟩
    refine wpC_execs_cons (wpC_any (cutY g L' (fun m' nw => m' "begun" = some (.ref lb) ∧ m' "mark" = some (.str (markS x) tm) ∧ (∃ t, m' "figures" = some (.str (figS x) t)) ∧ nw = (ln, lst vs) :: (lp, lst zs) :: (lb, lst ys) :: (L' + 1 + 1 + 1 + 1, oN') :: (L' + 1 + 1 + 1, oP') :: (L' + 1 + 1, oS) :: (L' + 1, oT) :: rest) (fun E' => ?_) ?_))
    · k_steps
      (with_reducible rename Fr g _ _ _ => FE)
      (with_reducible rename News g _ _ _ => NE)
      exact ⟨rfl, _, _, _, _, rfl, FE, news_sub NE (fun p hp => by first | exact hp | exact .tail _ hp | exact .tail _ (.tail _ hp)), (if_neg (by decide)).trans kb7, (if_neg (by decide)).trans km7, ⟨_, if_pos rfl⟩, rfl⟩
    clear F7 N7
    rintro h8 tk8 m8 nw8 F8 N8 ⟨kb8, km8, ⟨tf, kf8⟩, rfl⟩
    dsimp only
    rw [map_at kb8] at F8
    obtain rfl : bs = upto (nB x) := ebs.trans (beg_upto x)
    generalize hbase : ((ln, lst vs) :: (lp, lst zs) :: (lb, lst ys) :: (L' + 1 + 1 + 1 + 1, oN') :: (L' + 1 + 1 + 1, oP') :: (L' + 1 + 1, oS) :: (L' + 1, oT) :: rest : List (Addr × Obj)) = nb8 at *
    refine wpC_execs_cons (wpC_any (cutY g L' (fun m' nw => m' "begun" = some (.ref lb) ∧ m' "mark" = some (.str (markS x) tm) ∧ m' "figures" = some (.str (figS x) tf) ∧ ∃ lf fv us, m' "faults" = some (.ref lf) ∧ nw = (lf, lst fv) :: (ln, lst vs) :: (lp, lst zs) :: (lb, lst ys) :: (L' + 1 + 1 + 1 + 1, oN') :: (L' + 1 + 1 + 1, oP') :: (L' + 1 + 1, oS) :: (L' + 1, oT) :: (us ++ rest) ∧ TupsAre us ∧ FaultsAre (us ++ rest) fv (faults1 x) ∧ fv.length ≤ 100 ∧ ∀ q ∈ (ln, lst vs) :: (lp, lst zs) :: (lb, lst ys) :: (L' + 1 + 1 + 1 + 1, oN') :: (L' + 1 + 1 + 1, oP') :: (L' + 1 + 1, oS) :: (L' + 1, oT) :: (us ++ rest), q.1 ≠ lf) (fun E' => ?_) ?_))
    · subst hbase
      refine Assign_ListComp_TJ F8 rfl (by with_unfolding_all rfl) (by with_unfolding_all rfl) (by decide) (by with_unfolding_all rfl) (by decide) (by with_unfolding_all rfl) (by with_unfolding_all rfl) (by with_unfolding_all rfl) ?_ (by intro _; with_unfolding_all rfl)
      k_steps
      (with_reducible rename Fr g _ _ _ => FC)
      (with_reducible rename News g _ _ _ => NC)
      refine ⟨fun i => decide (((pairS x ((i : Int) * stepD x)).length : Int) < 2), fun i fv nw => ∃ us, nw = (ln, lst vs) :: (lp, lst zs) :: (lb, lst ys) :: (L' + 1 + 1 + 1 + 1, oN') :: (L' + 1 + 1 + 1, oP') :: (L' + 1 + 1, oS) :: (L' + 1, oT) :: (us ++ rest) ∧ TupsAre us ∧ FaultsAre (us ++ rest) fv ((((upto (nB x)).take i).filter fun k => decide (((pairS x (k * stepD x)).length : Int) < 2)).map fun k => (k * stepD x, PySem.Str.ofString "Incomplete time component")), lb, ys.toArray, ys.length, _, rfl, hh, FC, NC, ?_, ⟨[], rfl, (fun _ h => nomatch h), .nil⟩, ?_, ?_, ?_, ?_, ?_⟩
      · rw [List.size_toArray, hys.length]
        exact Nat.le_trans hb3 (by decide)
      · rintro i fv nw ⟨us, rfl, _⟩
        exact .tail _ (.tail _ (.head _))
      · rintro i v fv nw I oI C oC D m₂ h tk E2 hi hv ⟨us, rfl, hus, hfv⟩ hC hm2 FT NT off dist
        clear FC NC
        clear dist
        have hi' : i < nB x := by
          rw [List.size_toArray, hys.length, upto_len] at hi
          exact hi
        have hi3 := Nat.lt_of_lt_of_le hi' (nB_le x)
        obtain ⟨tb, hvb⟩ := hys.get i _ (upto_at hi')
        obtain rfl : Value.int (i : Int) tb = v := Option.some.inj (hvb.symm.trans (by simpa using hv))
        obtain ⟨tq, hq⟩ := hzs.get i (pairS x ((i : Int) * stepD x)) (by rw [List.getElem?_map, upto_at hi']; rfl)
        k_steps
        (with_reducible rename News g _ _ _ => NI)
        refine PyProof.Rows.item_list (x := .str (pairS x ((i : Int) * stepD x)) tq) ⟨_, (NI _ (.tail _ (.tail _ (.tail _ (.tail _ (.head _)))))).1, rfl, _, rfl⟩ (by omega) (by omega) (by simpa using hq) ?_ (by with_unfolding_all rfl) (by intro _; with_unfolding_all rfl)
        have hpl : (pairS x ((i : Int) * stepD x)).length ≤ 100 := Nat.le_trans (slice_len _ _ _) hx
        k_steps
        all_goals (
          (try dsimp only)
          (with_reducible rename Fr g _ _ _ => FE)
          (with_reducible rename News g _ _ _ => NE)
          refine TestIs.intro ?_ FE NE (fun p hp => hp)
          first
            | rfl
            | exact (decide_eq_true (by assumption)).symm
            | exact (decide_eq_false (by assumption)).symm)
      · rintro i v fv nw I oI C oC D m₂ h tk E2 hi hv hqi ⟨us, rfl, hus, hfv⟩ hC hm2 FT NT off dist
        clear FC NC
        clear dist
        have hi' : i < nB x := by
          rw [List.size_toArray, hys.length, upto_len] at hi
          exact hi
        have hi3 := Nat.lt_of_lt_of_le hi' (nB_le x)
        obtain ⟨tb, hvb⟩ := hys.get i _ (upto_at hi')
        obtain rfl : Value.int (i : Int) tb = v := Option.some.inj (hvb.symm.trans (by simpa using hv))
        have hltT := news_lt NT
        simp only [AllLt] at hltT
        k_steps
        (with_reducible rename Fr g _ _ _ => FE)
        (with_reducible rename News g _ _ _ => NE)
        refine elt_two (kn := [(ln, lst vs), (lp, lst zs), (lb, lst ys), (L' + 1 + 1 + 1 + 1, oN'), (L' + 1 + 1 + 1, oP'), (L' + 1 + 1, oS), (L' + 1, oT)]) FE NE off ?_ ?_ ⟨_, rfl, ?_, ?_⟩
        · clear off
          refine ⟨?_, ?_, ?_⟩ <;> omega
        · clear off
          refine ⟨?_, ?_, ?_⟩ <;> omega
        · intro z hz
          rcases List.mem_cons.mp hz with rfl | hz
          · exact ⟨rfl, _, _, rfl⟩
          · rcases List.mem_cons.mp hz with rfl | hz
            · exact ⟨rfl, _, _, rfl⟩
            · exact hus z hz
        · rw [upto_take_succ hi', List.filter_append, List.filter_cons, if_pos (show decide _ = true from hqi), List.filter_nil, List.map_append]
          exact hfv.snoc (fun _ h => .tail _ (.tail _ h)) ⟨_, _, _, _, _, _, _, _, rfl, .head _, .tail _ (.head _), rfl, rfl, rfl, rfl⟩
      · rintro i fv nw hi hqi ⟨us, rfl, hus, hfv⟩
        have hi' : i < nB x := by
          rw [List.size_toArray, hys.length, upto_len] at hi
          exact hi
        refine ⟨us, rfl, hus, ?_⟩
        rw [upto_take_succ hi', List.filter_append, List.filter_cons, if_neg (Bool.eq_false_iff.mp hqi), List.filter_nil, List.append_nil]
        exact hfv
      · rintro h9 fv nw ⟨us, rfl, hus, hfv⟩ D h10 tk10 F10 N10 o10
        rw [List.size_toArray, hys.length, List.take_length] at hfv
        refine ⟨rfl, _, _, _, _, rfl, F10, N10, (if_neg (by decide)).trans (if_pos rfl), (if_neg (by decide)).trans ((if_neg (by decide)).trans km8), (if_neg (by decide)).trans ((if_neg (by decide)).trans kf8), D, fv, us, if_pos rfl, rfl, hus, ?_, ?_, off1_mem o10⟩
        · unfold faults1
          rw [beg_upto]
          exact hfv
        · rw [hfv.1, List.length_map]
          exact Nat.le_trans (List.length_filter_le _ _) (by rw [upto_len]; exact Nat.le_trans (nB_le x) (by decide))
    clear F8 N8 hbase
    rintro h9 tk9 m9 nw9 F9 N9 ⟨kb9, km9, kf9, lf, fv, us, kl9, rfl, hus, hfv, hfl, hlf⟩
    rw [known4 kl9 kb9 km9 kf9] at F9
    refine wpC_execs_cons (wpC_any (cutY g L' (fun m' nw => m' "begun" = some (.ref lb) ∧ m' "mark" = some (.str (markS x) tm) ∧ m' "figures" = some (.str (figS x) tf) ∧ m' "faults" = some (.ref lf) ∧ ∃ fv c us, nw = (lf, W.listOf fv.toArray c) :: (ln, lst vs) :: (lp, lst zs) :: (lb, lst ys) :: (L' + 1 + 1 + 1 + 1, oN') :: (L' + 1 + 1 + 1, oP') :: (L' + 1 + 1, oS) :: (L' + 1, oT) :: (us ++ rest) ∧ TupsAre us ∧ FaultsAre (us ++ rest) fv (faults1 x ++ faults2 x) ∧ fv.length ≤ 200 ∧ ∀ q ∈ (ln, lst vs) :: (lp, lst zs) :: (lb, lst ys) :: (L' + 1 + 1 + 1 + 1, oN') :: (L' + 1 + 1 + 1, oP') :: (L' + 1 + 1, oS) :: (L' + 1, oT) :: (us ++ rest), q.1 ≠ lf) (fun E' => ?_) ?_))
    · k_steps
      (with_reducible rename Fr g _ _ _ => FL)
      (with_reducible rename News g _ _ _ => NL)
      refine ListComp_TJ FL (by with_unfolding_all rfl) (by decide) (by with_unfolding_all rfl) (by decide) (by with_unfolding_all rfl) ?_ (by intro _; with_unfolding_all rfl)
      k_steps
      (with_reducible rename Fr g _ _ _ => FC)
      (with_reducible rename News g _ _ _ => NC)
      obtain ⟨qf, hqf⟩ : ∃ qf : Nat → Bool, ∀ i : Nat, qf i = (decide (((pairS x ((i : Int) * stepD x)).length : Int) = 2) && badS x i) := ⟨_, fun _ => rfl⟩
      refine ⟨qf, fun i fv2 nw => ∃ us2, nw = (lf, lst fv) :: (ln, lst vs) :: (lp, lst zs) :: (lb, lst ys) :: (L' + 1 + 1 + 1 + 1, oN') :: (L' + 1 + 1 + 1, oP') :: (L' + 1 + 1, oS) :: (L' + 1, oT) :: (us2 ++ (us ++ rest)) ∧ TupsAre us2 ∧ FaultsAre (us2 ++ (us ++ rest)) fv2 ((((upto (nB x)).take i).filter fun k => decide (((pairS x (k * stepD x)).length : Int) = 2) && badS x k).map fun k => (k * stepD x, refusedText (pairS x (k * stepD x)))), lb, ys.toArray, ys.length, _, rfl, hh, FC, NC, ?_, ⟨[], rfl, (fun _ h => nomatch h), .nil⟩, ?_, ?_, ?_, ?_, ?_⟩
      · rw [List.size_toArray, hys.length]
        exact Nat.le_trans hb3 (by decide)
      · rintro i fv nw ⟨us2, rfl, _⟩
        exact .tail _ (.tail _ (.tail _ (.head _)))
      · rintro i v fv2 nw I oI C oC D m₂ h tk E2 hi hv ⟨us2, rfl, hus2, hfv2⟩ hC hm2 FT NT off dist
        clear FC NC
        clear dist
        have hi' : i < nB x := by
          rw [List.size_toArray, hys.length, upto_len] at hi
          exact hi
        have hi3 := Nat.lt_of_lt_of_le hi' (nB_le x)
        obtain ⟨tb, hvb⟩ := hys.get i _ (upto_at hi')
        obtain rfl : Value.int (i : Int) tb = v := Option.some.inj (hvb.symm.trans (by simpa using hv))
        have hqi : ((upto (nB x)).map fun b => pairS x (b * stepD x))[i]? = some (pairS x ((i : Int) * stepD x)) := by rw [List.getElem?_map, upto_at hi']; rfl
        obtain ⟨tq, hq⟩ := hzs.get i _ hqi
        obtain ⟨vk, hvk, hnum⟩ := hns.2 i _ hqi
        have hpl : (pairS x ((i : Int) * stepD x)).length ≤ 100 := Nat.le_trans (slice_len _ _ _) hx
        k_steps
        (with_reducible rename News g _ _ _ => NI)
        refine PyProof.Rows.item_list (x := .str (pairS x ((i : Int) * stepD x)) tq) ⟨_, (NI _ (.tail _ (.tail _ (.tail _ (.tail _ (.tail _ (.head _))))))).1, rfl, _, rfl⟩ (by omega) (by omega) (by simpa using hq) ?_ (by with_unfolding_all rfl) (by intro _; with_unfolding_all rfl)
        k_steps
        · rename ((pairS x ((i : Int) * stepD x)).length : Int) = 2 => h2
          rcases hnum with ⟨n, tn, hn, rfl⟩ | ⟨hn, l, o, tl, cl, rfl, hm, hcl, hdl⟩
          · replace hn := Hid7.mk hn
            (with_reducible rename News g _ _ _ => NK)
            refine PyProof.Rows.item_list (x := .int n tn) ⟨_, (NK _ (.tail _ (.tail _ (.tail _ (.tail _ (.head _)))))).1, rfl, _, rfl⟩ (by omega) (by omega) (by simpa using hvk) ?_ (by with_unfolding_all rfl) (by intro _; with_unfolding_all rfl)
            k_steps
            (try dsimp only)
            (with_reducible rename Fr g _ _ _ => FE)
            (with_reducible rename News g _ _ _ => NE)
            refine TestIs.intro ?_ FE NE (fun p hp => hp)
            rw [hqf]
            unfold badS
            rw [hn.out]
            exact (Bool.and_false _).symm
          · replace hn := Hid7.mk hn
            (with_reducible rename News g _ _ _ => NK)
            have NK2 : News g L' h ((l, o) :: (I, oI) :: (C, oC) :: (D, lst fv2) :: (lf, lst fv) :: (ln, lst vs) :: (lp, lst zs) :: (lb, lst ys) :: (L' + 1 + 1 + 1 + 1, oN') :: (L' + 1 + 1 + 1, oP') :: (L' + 1 + 1, oS) :: (L' + 1, oT) :: (us2 ++ (us ++ rest))) := news_sub NK fun z hz => by
              rcases List.mem_cons.mp hz with rfl | hz
              · exact List.mem_append_right [(I, oI), (C, oC), (D, lst fv2), (lf, lst fv), (ln, lst vs), (lp, lst zs), (lb, lst ys), (L' + 1 + 1 + 1 + 1, oN'), (L' + 1 + 1 + 1, oP'), (L' + 1 + 1, oS), (L' + 1, oT)] (List.mem_append_right _ (List.mem_append_right _ (hrest ▸ List.mem_append_left _ hm)))
              · exact hz
            refine PyProof.Rows.item_list (x := .ref l) ⟨_, (NK _ (.tail _ (.tail _ (.tail _ (.tail _ (.head _)))))).1, rfl, _, rfl⟩ (by omega) (by omega) (by simpa using hvk) ?_ (by with_unfolding_all rfl) (by intro _; with_unfolding_all rfl)
            clear NK
            obtain ⟨ocl, od, odt, osl⟩ := o
            dsimp only at hcl hdl
            subst hcl hdl
            k_steps
            (try dsimp only)
            (with_reducible rename Fr g _ _ _ => FE)
            (with_reducible rename News g _ _ _ => NE)
            refine TestIs.intro ?_ FE NE (fun p hp => .tail _ hp)
            rw [hqf]
            unfold badS
            rw [hn.out, decide_eq_true h2]
            rfl
        · rename ¬ ((pairS x ((i : Int) * stepD x)).length : Int) = 2 => h2
          (try dsimp only)
          (with_reducible rename Fr g _ _ _ => FE)
          (with_reducible rename News g _ _ _ => NE)
          refine TestIs.intro ?_ FE NE (fun p hp => hp)
          rw [hqf, decide_eq_false h2]
          rfl
      · rintro i v fv2 nw I oI C oC D m₂ h tk E2 hi hv hqb ⟨us2, rfl, hus2, hfv2⟩ hC hm2 FT NT off dist
        clear FC NC
        clear dist
        have hi' : i < nB x := by
          rw [List.size_toArray, hys.length, upto_len] at hi
          exact hi
        have hi3 := Nat.lt_of_lt_of_le hi' (nB_le x)
        obtain ⟨tb, hvb⟩ := hys.get i _ (upto_at hi')
        obtain rfl : Value.int (i : Int) tb = v := Option.some.inj (hvb.symm.trans (by simpa using hv))
        have hqi : ((upto (nB x)).map fun b => pairS x (b * stepD x))[i]? = some (pairS x ((i : Int) * stepD x)) := by rw [List.getElem?_map, upto_at hi']; rfl
        obtain ⟨vk, hvk, hnum⟩ := hns.2 i _ hqi
        have hqb' := hqb
        rw [hqf, Bool.and_eq_true] at hqb'
        rcases hnum with ⟨n, tn, hn, rfl⟩ | ⟨hn, l, o, tl, cl, rfl, hm, hcl, hdl⟩
        · have := hqb'.2
          unfold badS at this
          rw [hn] at this
          cases this
        replace hn := Hid7.mk hn
        clear hqb' hqi
        have hltT := news_lt NT
        simp only [AllLt] at hltT
        k_steps
        (with_reducible rename News g _ _ _ => NK)
        refine PyProof.Rows.item_list (x := .ref l) ⟨_, (NK _ (.tail _ (.tail _ (.tail _ (.tail _ (.head _)))))).1, rfl, _, rfl⟩ (by omega) (by omega) (by simpa using hvk) ?_ (by with_unfolding_all rfl) (by intro _; with_unfolding_all rfl)
        k_steps
        (with_reducible rename Fr g _ _ _ => FE)
        (with_reducible rename News g _ _ _ => NE)
        refine elt_one (kn := [(lf, lst fv), (ln, lst vs), (lp, lst zs), (lb, lst ys), (L' + 1 + 1 + 1 + 1, oN'), (L' + 1 + 1 + 1, oP'), (L' + 1 + 1, oS), (L' + 1, oT)]) FE NE off ?_ ⟨_, rfl, ?_, ?_⟩
        · clear off
          refine ⟨?_, ?_, ?_⟩ <;> omega
        · intro z hz
          rcases List.mem_cons.mp hz with rfl | hz
          · exact ⟨rfl, _, _, rfl⟩
          · exact hus2 z hz
        · have hm' : (l, o) ∈ us2 ++ (us ++ rest) := List.mem_append_right _ (List.mem_append_right _ (hrest ▸ List.mem_append_left _ hm))
          rw [upto_take_succ hi', List.filter_append, List.filter_cons, if_pos (by rw [← hqf]; exact hqb), List.filter_nil, List.map_append]
          exact hfv2.snoc (fun _ h => .tail _ h) ⟨_, l, _, o, _, tl, _, cl, rfl, .head _, .tail _ hm', rfl, rfl, hcl, hdl⟩
      · rintro i fv2 nw hi hqb ⟨us2, rfl, hus2, hfv2⟩
        have hi' : i < nB x := by
          rw [List.size_toArray, hys.length, upto_len] at hi
          exact hi
        refine ⟨us2, rfl, hus2, ?_⟩
        rw [upto_take_succ hi', List.filter_append, List.filter_cons, if_neg (by rw [← hqf]; exact Bool.eq_false_iff.mp hqb), List.filter_nil, List.append_nil]
        exact hfv2
      · rintro h10 fv2 nw ⟨us2, rfl, hus2, hfv2⟩ D h11 tk11 F11 N11 o11
        rw [List.size_toArray, hys.length, List.take_length] at hfv2
        clear FC NC
        have hfl2 : fv2.length ≤ 100 := by
          rw [hfv2.1, List.length_map]
          exact Nat.le_trans (List.length_filter_le _ _) (by rw [upto_len]; exact Nat.le_trans (nB_le x) (by decide))
        have hlf2 : ∀ q ∈ (ln, lst vs) :: (lp, lst zs) :: (lb, lst ys) :: (L' + 1 + 1 + 1 + 1, oN') :: (L' + 1 + 1 + 1, oP') :: (L' + 1 + 1, oS) :: (L' + 1, oT) :: (us2 ++ (us ++ rest)), q.1 ≠ lf := by
          intro q hq
          rcases List.mem_append.mp (show q ∈ [(ln, lst vs), (lp, lst zs), (lb, lst ys), (L' + 1 + 1 + 1 + 1, oN'), (L' + 1 + 1 + 1, oP'), (L' + 1 + 1, oS), (L' + 1, oT)] ++ (us2 ++ (us ++ rest)) from hq) with h | h
          · exact hlf q (List.mem_append_left (bs := us ++ rest) h)
          · rcases List.mem_append.mp h with h' | h'
            · refine news_ne N11 (.tail _ (.tail _ hq)) (.tail _ (.head _)) fun e => ?_
              have := (hus2 q h').1
              rw [e] at this
              revert this
              show Value.type "list" = Value.type "tuple" → False
              decide
            · exact hlf q (List.mem_append_right [(ln, lst vs), (lp, lst zs), (lb, lst ys), (L' + 1 + 1 + 1 + 1, oN'), (L' + 1 + 1 + 1, oP'), (L' + 1 + 1, oS), (L' + 1, oT)] h')
        have hDlf : D ≠ lf := (off1_mem o11 _ (.head _)).symm
        k_steps
        (with_reducible rename Fr g _ _ _ => FE)
        (with_reducible rename News g _ _ _ => NE)
        refine iadd_lists (D := D) (lf := lf) (its := fv.toArray) (n := fv.length) (its2 := fv2.toArray) (n2 := fv2.length) (rest := (D, lst fv2) :: (ln, lst vs) :: (lp, lst zs) :: (lb, lst ys) :: (L' + 1 + 1 + 1 + 1, oN') :: (L' + 1 + 1 + 1, oP') :: (L' + 1 + 1, oS) :: (L' + 1, oT) :: (us2 ++ (us ++ rest))) FE (news_sub NE fun z hz => ?_) (.head _) ?_ ?_ ?_ ?_
        · rcases List.mem_cons.mp hz with rfl | hz
          · exact .tail _ (.head _)
          · rcases List.mem_cons.mp hz with rfl | hz
            · exact .head _
            · exact .tail _ (.tail _ hz)
        · intro q hq
          rcases List.mem_cons.mp hq with rfl | hq
          · exact hDlf
          · exact hlf2 q hq
        · rw [List.size_toArray]
          omega
        · rw [List.size_toArray]
          omega
        · intro h13 c13 F13 N13
          clear FE NE
          k_steps
          (with_reducible rename Fr g _ _ _ => FE)
          (with_reducible rename News g _ _ _ => NE)
          refine ⟨rfl, _, _, _, _, rfl, FE, ?_, (if_neg (by decide)).trans ((if_neg (by decide)).trans (if_pos rfl)), (if_neg (by decide)).trans ((if_neg (by decide)).trans ((if_neg (by decide)).trans (if_pos rfl))), (if_neg (by decide)).trans ((if_neg (by decide)).trans ((if_neg (by decide)).trans ((if_neg (by decide)).trans (if_pos rfl)))), if_pos rfl, fv ++ fv2, c13, us2 ++ us, rfl, ?_, ?_, ?_, ?_⟩
          · rw [List.append_toArray] at NE
            rw [List.append_assoc]
            exact news_sub NE fun z hz => by
              rcases List.mem_cons.mp hz with rfl | hz
              · exact .head _
              · exact .tail _ (.tail _ hz)
          · intro z hz
            rcases List.mem_append.mp hz with hz | hz
            · exact hus2 z hz
            · exact hus z hz
          · rw [List.append_assoc]
            refine (hfv.up fun z hz => List.mem_append_right _ hz).append ?_
            unfold faults2
            rw [beg_upto]
            exact hfv2
          · rw [List.length_append]
            omega
          · rw [List.append_assoc]
            exact hlf2
    clear F9 N9
    clear hfv hus hfl hlf kb9 km9 kf9 kl9 fv us
    rintro h14 tk14 m14 nw14 F14 N14 ⟨kb9, km9, kf9, kl9, fv, c14, us, rfl, hus, hfv, hfl, hlf⟩
    rw [known4 kl9 kb9 km9 kf9] at F14
    dsimp only
    have hlt14 := news_lt N14
    simp only [AllLt] at hlt14
    refine wpC_execs_cons (wpC_any (cutY g L' (FsP x tm tf lb lf [(ln, lst vs), (lp, lst zs), (lb, lst ys), (L' + 1 + 1 + 1 + 1, oN'), (L' + 1 + 1 + 1, oP'), (L' + 1 + 1, oS), (L' + 1, oT)] rest (faults1 x ++ faults2 x ++ faults3 x) 201) (fun E' => ?_) ?_))
    · k_steps
      · rename stepD x = 3 => hs3
        rename (5 : Int) < _ => hs5
        rename (Txt.item x 5 != _) = true => hs9
        (with_reducible rename Fr g _ _ _ => FE)
        (with_reducible rename News g _ _ _ => NE)
        refine fsP_add (s := { s with heap := h14, toks := tk14 }) (kn := [(ln, lst vs), (lp, lst zs), (lb, lst ys), (L' + 1 + 1 + 1 + 1, oN'), (L' + 1 + 1 + 1, oP'), (L' + 1 + 1, oS), (L' + 1, oT)]) FE NE rfl rfl rfl rfl rfl hus hfv hfl hlf (congrArg _ ?_)
        unfold faults3
        rw [bne, Bool.not_eq_true'] at hs9
        rw [if_pos ⟨hs3, hs5, hs9⟩]
      · rename (Txt.item x 5 != _) = false => hs9
        (with_reducible rename Fr g _ _ _ => FE)
        (with_reducible rename News g _ _ _ => NE)
        refine fsP_same (s := { s with heap := h14, toks := tk14 }) (kn := [(ln, lst vs), (lp, lst zs), (lb, lst ys), (L' + 1 + 1 + 1 + 1, oN'), (L' + 1 + 1 + 1, oP'), (L' + 1 + 1, oS), (L' + 1, oT)]) FE NE rfl hus hfv hfl hlf ?_
        unfold faults3
        rw [if_neg, List.append_nil]
        rintro ⟨_, _, z⟩
        rw [bne, z] at hs9
        cases hs9
      · rename ¬ (5 : Int) < _ => hs5
        (with_reducible rename Fr g _ _ _ => FE)
        (with_reducible rename News g _ _ _ => NE)
        refine fsP_same (s := { s with heap := h14, toks := tk14 }) (kn := [(ln, lst vs), (lp, lst zs), (lb, lst ys), (L' + 1 + 1 + 1 + 1, oN'), (L' + 1 + 1 + 1, oP'), (L' + 1 + 1, oS), (L' + 1, oT)]) FE NE rfl hus hfv hfl hlf ?_
        unfold faults3
        rw [if_neg (fun z => hs5 z.2.1), List.append_nil]
      · rename stepD x ≠ 3 => hs3
        (with_reducible rename Fr g _ _ _ => FE)
        (with_reducible rename News g _ _ _ => NE)
        refine fsP_same (s := { s with heap := h14, toks := tk14 }) (kn := [(ln, lst vs), (lp, lst zs), (lb, lst ys), (L' + 1 + 1 + 1 + 1, oN'), (L' + 1 + 1 + 1, oP'), (L' + 1 + 1, oS), (L' + 1, oT)]) FE NE rfl hus hfv hfl hlf ?_
        unfold faults3
        rw [if_neg (fun z => hs3 z.1), List.append_nil]
    clear F14 N14 hlt14
    clear hfv hus hfl hlf kb9 km9 kf9 kl9 fv us
    rintro h15 tk15 m15 nw15 F15 N15 ⟨kb9, km9, kf9, kl9, fv, c15, us, rfl, hus, hfv, hfl, hlf⟩
    rw [known4 kl9 kb9 km9 kf9] at F15
    dsimp only [List.cons_append, List.nil_append] at N15
    have hlt15 := news_lt N15
    simp only [AllLt] at hlt15
    refine wpC_execs_cons (cutG L' (Gd ((env :: outer).filterMap (·.frame)) A base (env :: outer) (hd.heap_39 w.params) p loose mean mg mb g') (FsP x tm tf lb lf [(ln, lst vs), (lp, lst zs), (lb, lst ys), (L' + 1 + 1 + 1 + 1, oN'), (L' + 1 + 1 + 1, oP'), (L' + 1 + 1, oS), (L' + 1, oT)] rest (faultsD x) 202) (fun E' => ?_) ?_)
    · refine wpC_If ?_
      k_steps
      · rename List.any _ _ = true => hq1
        refine wpC_execs_one (wpC_If ?_)
        (with_reducible rename Fr g _ _ _ => FE)
        (with_reducible rename News g _ _ _ => NE)
        k_steps
        (with_reducible rename Fr g _ _ _ => FL)
        (with_reducible rename News g _ _ _ => NL)
        have hfs : (figS x).length ≤ 100 := Nat.le_trans (slice_len _ _ _) hx
        obtain ⟨pf, hpf⟩ : ∃ pf : Nat → Bool, ∀ c, pf c = !digQ c := ⟨_, fun _ => rfl⟩
        refine ListComp_str (y := figS x) (t := tf) pf FL NL hh (fun Q' q => ?_) (Nat.le_trans hfs (by decide)) (by with_unfolding_all rfl) (by decide) (by with_unfolding_all rfl) (by decide) (by with_unfolding_all rfl) (by with_unfolding_all rfl) (by intro _; with_unfolding_all rfl) ?_ ?_
        · k_steps
          exact q
        · intro c u ys I oI C oC D m₂ h tk E2 hC hm2 FT NT
          clear FL NL
          walk1
          walk1
          walk1
          walk1
          walk1
          (with_reducible rename Fr g _ _ _ => FE)
          (with_reducible rename News g _ _ _ => NE)
          refine TestIs.intro ?_ FE NE (fun p hp => hp)
          rw [hpf, digQ]
        · intro D h tk ys hy FT NT o1
          clear FL NL
          have hnp : ys.isEmpty = (figS x).cps.toList.all digQ := by
            rw [hy, List.all_eq_not_any_not]
            exact congrArg (fun f => !(List.any (figS x).cps.toList f)) (funext hpf)
          k_steps
          (with_reducible rename News g _ _ _ => NK)
          refine ne_nil (ys := ys) (c1 := ys.length) (c2 := 0) NK (.tail _ (.head _)) (.head _) (by walk_at "units") ?_
          rw [hnp]
          have hDlf : (@Ne Nat lf D) := off1_mem o1 _ (.tail _ (.head _))
          clear o1
          have hmk : markQ x = true := hq1
          (with_reducible rename Fr g _ _ _ => FE)
          (with_reducible rename News g _ _ _ => NE)
          cases hdg : (figS x).cps.toList.all digQ with
          | false =>
            dsimp only [Bool.not_false]
            k_steps
            refine wpC_any ?_
            k_steps
            (with_reducible rename Fr g _ _ _ => FA)
            (with_reducible rename News g _ _ _ => NA)
            refine AtY.atG (g := g) (fsP_add (s := { s with heap := h15, toks := tk15 }) (kn := [(ln, lst vs), (lp, lst zs), (lb, lst _), (L' + 1 + 1 + 1 + 1, oN'), (L' + 1 + 1 + 1, oP'), (L' + 1 + 1, oS), (L' + 1, oT)]) FA (news_sub NA fun z hz => led_drop [_, _, _] hz) rfl rfl rfl rfl rfl hus hfv hfl hlf (congrArg _ ?_)) G
            unfold faults4
            rw [hmk, hdg]
            rfl
          | true =>
            dsimp only [Bool.not_true]
            k_steps
            refine wpC_execs_one (wpC_If ?_)
            k_steps
            · rename (markS x != _) = true => hk1
              rename (figS x == _) = true => hk2
              have hnone : PySem.intText? (figS x) = none := by
                rw [eq_of_beq hk2]
                decide +kernel
              replace hnone := Hid7.mk hnone
              refine wpC_execs_one (wpC_Expr (wpC_method1 rfl rfl rfl PySem.F.plainAttrs_list PySem.F.slot_list_append PySem.F.type_list_append ?_))
              walk1
              dsimp only
              (with_reducible rename Fr g _ _ _ => FA)
              (with_reducible rename News g _ _ _ => NA)
              refine ⟨⟨⟨_, (NA _ (.tail _ (.tail _ (.tail _ (.head _))))).1, rfl⟩, fun a e => ?_⟩, ?_⟩
              · cases e
                exact ⟨_, (NA _ (.tail _ (.tail _ (.tail _ (.head _))))).1, rfl⟩
              refine wpC_Tuple2 ?_
              k_steps
              refine wpC_Call_Name ?_
              k_steps
              have h43 := XG 43 _ (by k_is)
              refine wpC_callWith_fun (hdat := (show Obj.data _ = .func _ from rfl)) (wpAny_mono (Q := fun vs s₂ => (∀ b o, g.get? b = some o → s₂.heap.get? b = some o) ∧ wpC _ _ (call (.ref 43) vs) _ _ s₂) ?_ (fun vs s₁ q => ⟨q.1 _ _ h43, q.2⟩) fun _ _ q => q)
              k_steps
              (with_reducible rename Fr g _ _ _ => FQ)
              (with_reducible rename News g _ _ _ => NQ)
              refine read7 G.below FQ XG XB TB NQ TG G.dicts G.turn (Around.frames_deeper B'.stack) rfl rfl ?hr1 hh ?hu1 hfs (fun c hc => hcp c (slice_cp hc)) ?_ ?_
              case hr1 =>
                have hr : A.depth + 1 + 30 < recursionLimit := by omega
                exact hr
              case hu1 => walk_at "units"
              · intro h16 tk16 n16 t16 hn16
                rw [hnone.out] at hn16
                cases hn16
              · intro g16 h16 tk16 l16 t16 o16 c16 hn16 hc16 hd16 T16 F16 N16 B16 X16 TT16 D16
                clear FQ NQ
                have hl16 : (@Ne Nat l16 lf) := news_ne N16 (.head _) (.tail _ (.tail _ (.tail _ (.tail _ (.head _))))) fun e => by
                  rw [e] at hc16
                  revert hc16
                  show Value.type "list" = Value.type "tuple" → False
                  decide
                dsimp only
                refine pushA F16 N16 fun D17 h17 lt17 F17 N17 => ?_
                have l17 : (@Ne Nat D17 lf) := Nat.ne_of_gt (lt17 _ (.tail _ (.tail _ (.tail _ (.tail _ (.head _))))))
                clear F16 N16 lt17
                k_steps
                (with_reducible rename Fr g16 _ _ _ => FR)
                (with_reducible rename News g16 _ _ _ => NR)
                refine AtY.atG (g := g16) (fsP_add (s := { s with heap := h15, toks := tk15 }) (kn := [(ln, lst vs), (lp, lst zs), (lb, lst _), (L' + 1 + 1 + 1 + 1, oN'), (L' + 1 + 1 + 1, oP'), (L' + 1 + 1, oS), (L' + 1, oT)]) FR (news_sub NR fun z hz => led_drop [_, _, _] hz) rfl rfl rfl hc16 hd16 hus hfv hfl hlf (congrArg _ ?_)) ⟨T16, B16, X16, TT16, D16⟩
                rw [bne, Bool.not_eq_true'] at hk1
                unfold faults4
                rw [hmk, hdg, if_neg (by decide), if_neg (by decide), if_pos ⟨hk1, hk2⟩]
            · rename (markS x != _) = true => hk1
              rename (figS x == _) = false => hk2
              (with_reducible rename Fr g _ _ _ => FA)
              (with_reducible rename News g _ _ _ => NA)
              refine wpC_execs_nil (AtY.atG (g := g) (fsP_same (s := { s with heap := h15, toks := tk15 }) (kn := [(ln, lst vs), (lp, lst zs), (lb, lst _), (L' + 1 + 1 + 1 + 1, oN'), (L' + 1 + 1 + 1, oP'), (L' + 1 + 1, oS), (L' + 1, oT)]) FA (news_sub NA fun z hz => List.mem_append_right [_, _, _] hz) rfl hus hfv hfl hlf ?_) G)
              unfold faultsD faults4
              rw [hmk, hdg, hk2, if_neg (by decide), if_neg (by decide), if_neg (fun z => by cases z.2), List.append_nil]
            · rename (markS x != _) = false => hk1
              (with_reducible rename Fr g _ _ _ => FA)
              (with_reducible rename News g _ _ _ => NA)
              refine wpC_execs_nil (AtY.atG (g := g) (fsP_same (s := { s with heap := h15, toks := tk15 }) (kn := [(ln, lst vs), (lp, lst zs), (lb, lst _), (L' + 1 + 1 + 1 + 1, oN'), (L' + 1 + 1 + 1, oP'), (L' + 1 + 1, oS), (L' + 1, oT)]) FA (news_sub NA fun z hz => List.mem_append_right [_, _, _] hz) rfl hus hfv hfl hlf ?_) G)
              rw [bne, Bool.not_eq_false'] at hk1
              unfold faultsD faults4
              rw [hmk, hdg, hk1, if_neg (by decide), if_neg (by decide), if_neg (fun z => by cases z.1), List.append_nil]
      · rename List.any _ _ = false => hq1
        refine wpC_any ?_
        k_steps
        have hmk : markQ x = false := hq1
        (with_reducible rename Fr g _ _ _ => FA)
        (with_reducible rename News g _ _ _ => NA)
        refine AtY.atG (g := g) (fsP_add (s := { s with heap := h15, toks := tk15 }) (kn := [(ln, lst vs), (lp, lst zs), (lb, lst ys), (L' + 1 + 1 + 1 + 1, oN'), (L' + 1 + 1 + 1, oP'), (L' + 1 + 1, oS), (L' + 1, oT)]) FA (news_sub NA fun z hz => led_drop [_] hz) rfl rfl rfl rfl rfl hus hfv hfl hlf (congrArg _ ?_)) G
        unfold faults4
        rw [hmk]
        rfl
    clear F15 N15 hlt15 hfv hus hfl hlf kb9 km9 kf9 kl9 fv us G XG TG
    rintro g h16 tk16 m16 nw16 G F16 N16 ⟨kb9, km9, kf9, kl9, fv, c16, us, rfl, hus, hfv, hfl, hlf⟩
    rw [known4 kl9 kb9 km9 kf9] at F16
    dsimp only [List.cons_append, List.nil_append] at N16
    dsimp only
    have XG := G.inK
    have TG := G.top
    refine wpC_execs_cons (wpC_If ?_)
    k_steps
    (with_reducible rename News g _ _ _ => NK)
    refine ne_nil (ys := fv) (c1 := c16) (c2 := 0) NK (.tail _ (.head _)) (.head _) (by walk_at "units") ?_
    cases hfe : fv.isEmpty with
    | false =>
      dsimp only [Bool.not_false]
      k_steps
      refine wpC_any ?_
      k_steps
      (with_reducible rename Fr g _ _ _ => FM)
      (with_reducible rename News g _ _ _ => NM)
      have hlf16 := (NM _ (.tail _ (.head _))).1
      have hn0 : 0 < fv.toArray.size := by
        rw [List.size_toArray]
        cases fv with
        | nil => cases hfe
        | cons a l => exact Nat.succ_pos _
      have hitem : ∀ (i : Nat) (v : Value), fv.toArray[i]? = some v → ∃ f, (faultsD x)[i]? = some f ∧ FaultAt (us ++ rest) v f := fun i v hv => by
        have hv' : fv[i]? = some v := by simpa using hv
        have hi : i < (faultsD x).length := by rw [← hfv.1]; exact (List.getElem?_eq_some_iff.mp hv').1
        obtain ⟨v2, e2, r⟩ := hfv.2 i _ (List.getElem?_eq_getElem hi)
        rw [hv'] at e2
        exact ⟨_, List.getElem?_eq_getElem hi, Option.some.inj e2 ▸ r⟩
      have hin : ∀ q ∈ us ++ rest, q ∈ (lf, W.listOf fv.toArray c16) :: (ln, lst vs) :: (lp, lst zs) :: (lb, lst ys) :: (L' + 1 + 1 + 1 + 1, oN') :: (L' + 1 + 1 + 1, oP') :: (L' + 1 + 1, oS) :: (L' + 1, oT) :: (us ++ rest) := fun q hq => List.mem_append_right [(lf, W.listOf fv.toArray c16), (ln, lst vs), (lp, lst zs), (lb, lst ys), (L' + 1 + 1 + 1 + 1, oN'), (L' + 1 + 1 + 1, oP'), (L' + 1 + 1, oS), (L' + 1, oT)] hq
      refine call_min_list hh ⟨_, hlf16, rfl, _, rfl⟩ hn0 (fun i j => decide (placeD x i < placeD x j)) ?_ ?_
      · intro i j vi vj s' Q' E2 hji hvi hvj hk hQ
        obtain ⟨f1, e1, a1, b1, o1, o1', t1, t1', c1, c1', rfl, m1, _, k1, d1, _, _⟩ := hitem i vi hvi
        obtain ⟨f2, e2, a2, b2, o2, o2', t2, t2', c2, c2', rfl, m2, _, k2, d2, _, _⟩ := hitem j vj hvj
        have hp1 : placeD x i = f1.1 := placeD_at e1
        have hp2 : placeD x j = f2.1 := placeD_at e2
        rw [hp1, hp2] at hQ
        exact lt_tup ⟨o1, hk _ _ (NM _ (.tail _ (hin _ m1))).1, k1, c1, d1⟩ ⟨o2, hk _ _ (NM _ (.tail _ (hin _ m2))).1, k2, c2, d2⟩ (by walk_at "units") (place_ne hji e1 e2) hQ
      · intro v h17 tk17 hv hk
        obtain ⟨f1, e1, a1, b1, o1, o1', t1, t1', c1, c1', rfl, m1, m1', k1, d1, k1', d1'⟩ := hitem _ v hv
        have hmin : ∀ q ∈ faultsD x, f1.1 ≤ q.1 := fun q hq => by
          obtain ⟨j, hj, rfl⟩ := List.getElem_of_mem hq
          have hjn : j ≤ fv.toArray.size - 1 := by
            rw [List.size_toArray, hfv.1]
            omega
          have hle := argBest_min (placeD x) _ j hjn
          have hp1 : placeD x (argBest (fun i j => decide (placeD x i < placeD x j)) (fv.toArray.size - 1)) = f1.1 := by
            exact placeD_at e1
          have hp2 : placeD x j = (faultsD x)[j].1 := placeD_at (List.getElem?_eq_getElem hj)
          rw [hp1, hp2] at hle
          exact hle
        have F17 : Fr g L' h17 _ := FM.keeps hk
        have N17 : News g L' h17 _ := NM.grown hk
        k_steps
        (with_reducible rename Fr g _ _ _ => FA)
        (with_reducible rename News g _ _ _ => NA)
        refine item_tupleT (l := [.int f1.1 t1, .ref b1]) ⟨_, (NA _ (.tail _ (hin _ m1))).1, k1, _, d1⟩ (by omega) (by omega) (by rfl) (by rfl) ?_
        k_steps
        (with_reducible rename Fr g _ _ _ => FR)
        (with_reducible rename News g _ _ _ => NR)
        refine ⟨g, _, _, _, b1, o1', rfl, rfl, G, .inr ⟨f1.1, f1.2, List.mem_of_getElem? e1, hmin, k1', t1', c1', d1'⟩, FR, news_sub NR fun z hz => ?_⟩
        rcases List.mem_cons.mp hz with rfl | hz
        · exact .tail _ (hin _ m1')
        · exact .tail _ (hin _ (List.mem_append_right _ (hrest ▸ List.mem_append_right _ hz)))
    | true =>
      dsimp only [Bool.not_true]
      k_steps
      have hfn : faultsD x = [] := by
        rw [List.isEmpty_iff.mp hfe] at hfv
        exact List.eq_nil_of_length_eq_zero hfv.1.symm
      obtain ⟨hall, hmk, hdg⟩ := no_faults hfn
      obtain ⟨f6, hsix⟩ : ∃ f, Hid7 (PySem.intText? (Txt.slice (figS x ++ PySem.Str.ofString "000000") none (some 6)) = some f) := ⟨_, ⟨six_some hdg⟩⟩
      have hvi : ∀ i : Nat, i < nB x → ∃ n t, vs[i]? = some (.int n t) ∧ Hid7 (PySem.intText? (pairS x ((i : Int) * stepD x)) = some n) := fun i hi => by
        obtain ⟨n, hn⟩ := hall i hi
        obtain ⟨v, hv, hnum⟩ := hns.2 i _ (by rw [List.getElem?_map, upto_at hi]; rfl)
        rcases hnum with ⟨n', t, hn', rfl⟩ | ⟨hn', _⟩
        · exact ⟨n', t, hv, ⟨hn'⟩⟩
        · rw [hn] at hn'
          cases hn'
      have hvn : vs.length = nB x := by rw [hns.1, List.length_map, upto_len]
      refine wpC_execs_nil ?_
      dsimp only
      refine wpC_any ?_
      have hlen6 : Hid7 <| (Txt.slice (figS x ++ PySem.Str.ofString "000000") none (some 6)).length ≤ 200 := by
        refine ⟨Nat.le_trans (slice_len _ _ _) ?_⟩
        rw [strLen_append]
        have : (figS x).length ≤ 100 := Nat.le_trans (slice_len _ _ _) hx
        have : (PySem.Str.ofString "000000").length = 6 := by decide +kernel
        omega
      have hf100 : Hid7 ((figS x).length ≤ 100) := ⟨Nat.le_trans (slice_len _ _ _) hx⟩
      replace hdg := Hid7.mk hdg
      replace hmk := Hid7.mk hmk
      replace hfn := Hid7.mk hfn
      have hB := nB_le x
      clear hall hns
      obtain ⟨nb, hnb⟩ : ∃ nb, nb = nB x := ⟨_, rfl⟩
      rw [← hnb] at hvi hvn hB
      have hnb1 : 1 ≤ nb := by
        rw [hnb]
        unfold nB
        split
        · decide
        · split <;> decide
      (with_reducible rename Fr g _ _ _ => FS)
      (with_reducible rename News g _ _ _ => NS)
      walk1
      walk1
      walk1
      refine wpAny_mono (Q := LeftD g L' (mapD x tm tf lb lf m16) ((lf, W.listOf fv.toArray c16) :: (ln, lst vs) :: (lp, lst zs) :: (lb, lst ys) :: (L' + 1 + 1 + 1 + 1, oN') :: (L' + 1 + 1 + 1, oP') :: (L' + 1 + 1, oS) :: (L' + 1, oT) :: (us ++ rest)) x s) ?_ (fun v s9 q9 => ?_) (fun _ _ e => e)
      · have hcase : nb = 1 ∨ nb = 2 ∨ nb = 3 := by omega
        rcases hcase with rfl | rfl | rfl
        · obtain ⟨n0, t0, e0, i0⟩ := hvi 0 (by decide)
          obtain rfl : vs = [.int n0 t0] := by
            have hv := hvn
            rcases vs with _ | ⟨a0, _ | ⟨b, l⟩⟩
            · simp at hv
            · simp at e0
              rw [e0]
            · simp at hv
          k_steps
          (with_reducible rename Fr g _ _ _ => FQ)
          (with_reducible rename News g _ _ _ => NQ)
          refine add_lists (its3 := #[.int n0 t0, .int 0 _, .int 0 _]) FQ NQ (.tail _ (.tail _ (.tail _ (.head _)))) (.head _) rfl (by simp) (by simp) ?_
          intro D h' ltD F' N'
          clear FQ NQ ltD
          k_steps
          (with_reducible rename Fr g _ _ _ => FQ)
          (with_reducible rename News g _ _ _ => NQ)
          refine ⟨_, _, _, n0, 0, 0, _, _, _, rfl, rfl, FQ, news_keep NQ fun z hz => List.mem_append_right [_, _, _, _] hz, ?_⟩
          rw [beg_upto, ← hnb]
          show ([(PySem.intText? (pairS x (((0 : Nat) : Int) * stepD x))).getD 0] ++ [0, 0]).take 3 = [n0, 0, 0]
          rw [i0.out]
          rfl
        · obtain ⟨n0, t0, e0, i0⟩ := hvi 0 (by decide)
          obtain ⟨n1, t1, e1, i1⟩ := hvi 1 (by decide)
          obtain rfl : vs = [.int n0 t0, .int n1 t1] := by
            have hv := hvn
            rcases vs with _ | ⟨a0, _ | ⟨a1, _ | ⟨b, l⟩⟩⟩
            · simp at hv
            · simp at hv
            · simp at e0 e1
              rw [e0, e1]
            · simp at hv
          k_steps
          (with_reducible rename Fr g _ _ _ => FQ)
          (with_reducible rename News g _ _ _ => NQ)
          refine add_lists (its3 := #[.int n0 t0, .int n1 t1, .int 0 _, .int 0 _]) FQ NQ (.tail _ (.tail _ (.tail _ (.head _)))) (.head _) rfl (by simp) (by simp) ?_
          intro D h' ltD F' N'
          clear FQ NQ ltD
          k_steps
          (with_reducible rename Fr g _ _ _ => FQ)
          (with_reducible rename News g _ _ _ => NQ)
          refine ⟨_, _, _, n0, n1, 0, _, _, _, rfl, rfl, FQ, news_keep NQ fun z hz => List.mem_append_right [_, _, _, _] hz, ?_⟩
          rw [beg_upto, ← hnb]
          show ([(PySem.intText? (pairS x (((0 : Nat) : Int) * stepD x))).getD 0, (PySem.intText? (pairS x (((1 : Nat) : Int) * stepD x))).getD 0] ++ [0, 0]).take 3 = [n0, n1, 0]
          rw [i0.out, i1.out]
          rfl
        · obtain ⟨n0, t0, e0, i0⟩ := hvi 0 (by decide)
          obtain ⟨n1, t1, e1, i1⟩ := hvi 1 (by decide)
          obtain ⟨n2, t2, e2, i2⟩ := hvi 2 (by decide)
          obtain rfl : vs = [.int n0 t0, .int n1 t1, .int n2 t2] := by
            have hv := hvn
            rcases vs with _ | ⟨a0, _ | ⟨a1, _ | ⟨a2, _ | ⟨b, l⟩⟩⟩⟩
            · simp at hv
            · simp at hv
            · simp at hv
            · simp at e0 e1 e2
              rw [e0, e1, e2]
            · simp at hv
          k_steps
          (with_reducible rename Fr g _ _ _ => FQ)
          (with_reducible rename News g _ _ _ => NQ)
          refine add_lists (its3 := #[.int n0 t0, .int n1 t1, .int n2 t2, .int 0 _, .int 0 _]) FQ NQ (.tail _ (.tail _ (.tail _ (.head _)))) (.head _) rfl (by simp) (by simp) ?_
          intro D h' ltD F' N'
          clear FQ NQ ltD
          k_steps
          (with_reducible rename Fr g _ _ _ => FQ)
          (with_reducible rename News g _ _ _ => NQ)
          refine ⟨_, _, _, n0, n1, n2, _, _, _, rfl, rfl, FQ, news_keep NQ fun z hz => List.mem_append_right [_, _, _, _] hz, ?_⟩
          rw [beg_upto, ← hnb]
          show ([(PySem.intText? (pairS x (((0 : Nat) : Int) * stepD x))).getD 0, (PySem.intText? (pairS x (((1 : Nat) : Int) * stepD x))).getD 0, (PySem.intText? (pairS x (((2 : Nat) : Int) * stepD x))).getD 0] ++ [0, 0]).take 3 = [n0, n1, n2]
          rw [i0.out, i1.out, i2.out]
          rfl
      · obtain ⟨h9, tk9, D, na, nb', nd, t1, t2, t3, rfl, rfl, F9, N9, h3⟩ := q9
        replace h3 := Hid7.mk h3
        unfold mapD at F9
        clear FS NS
        k_steps
        refine SBL.add (hsz := ?hsz) ?_
        case hsz =>
          have hb := hf100.out
          have h6 : (PySem.Str.ofString "000000").length = 6 := by decide +kernel
          have hbig : 106 ≤ sizeLine := by decide
          rw [h6]
          omega
        intro _ _ hcat
        dsimp only
        iterate 5 walk1
        (with_reducible rename Fr g _ _ _ => FQ)
        (with_reducible rename News g _ _ _ => NQ)
        refine slice_strN_ns_len (s := ⟨_, _, _, _, _⟩) FQ NQ ?_ (hsz := ?hsz2)
        case hsz2 =>
          have hb := hf100.out
          have h6 : (PySem.Str.ofString "000000").length = 6 := by decide +kernel
          have hbig : 106 ≤ sizeLine := by decide
          rw [strLen_append, h6]
          omega
        intro h18 t18 k18 F18 N18 hcut
        clear FQ NQ hcat hcut
        dsimp only
        k_steps
        refine KIN.call_text hsix.out (Nat.le_trans hlen6.out (by decide)) ?_
        k_steps
        (with_reducible rename Fr g _ _ _ => FQ)
        (with_reducible rename News g _ _ _ => NQ)
        refine add_lists (its3 := #[.int na t1, .int nb' t2, .int nd t3, .int f6 _]) FQ NQ (.tail _ (.head _)) (.head _) rfl (by simp) (by simp) ?_
        intro D2 h2 lt2 F2 N2
        refine ⟨g, _, _, _, D2, _, rfl, rfl, G, .inl ⟨hfn.out, na, nb', nd, f6, _, _, _, _, 0, rfl, h3.out, hsix.out⟩, F2, news_keep N2 fun z hz => ?_⟩
        exact List.mem_append_right [(D2, _), _, _, (lf, W.listOf fv.toArray c16), (ln, _), (lp, lst zs), (lb, lst ys), (L' + 1 + 1 + 1 + 1, oN'), (L' + 1 + 1 + 1, oP'), (L' + 1 + 1, oS), (L' + 1, oT)] (List.mem_append_right _ (hrest ▸ List.mem_append_right _ hz))
end
end Mine
end
section
open PySem PySem.W PyProof.Rows PySem.Calls LCg
set_option maxRecDepth 100000
set_option pp.maxSteps 3000
set_option maxHeartbeats 8000000
set_option rowWalk.seconds 0
namespace Mine
inductive HaltP07 : Prop → Prop
  | k0 {M A Q E s a b} : HaltP07 (wpAny M A (compareOp CmpOp.NotEq (Value.ref a) (Value.ref b)) Q E s)
  | k1 {M A Q E s a} : HaltP07 (wpAny M A (pyIter (Value.ref a)) Q E s)
  | k2 {M A Q E s a b c} : HaltP07 (wpAny M A (call (Value.ref a) b c) Q E s)
  | k3 {M A Q E s a b} : HaltP07 (wpAny M A (noteFrame a b) Q E s)
  | k4 {M A Q E s b c} : HaltP07 (wpAny M A (call (Value.type "enumerate") b c) Q E s)
  | k5 {M A Q E s a b c d e} : HaltP07 (wpAny M A (eval (Expr.ListComp a b c d) e) Q E s)
theorem HaltP07.go {p : Prop} (_ : HaltP07 p) (h : p) : p := h
local macro_rules | `(tactic| walk_at "my stop") => `(tactic| fail_if_success (with_reducible refine HaltP07.go (by constructor) ?_))
/-- a clock of the law -/
def ClockOk (ck : PySem.Str) : Prop := 14 ≤ ck.length ∧ ck.length ≤ 16 ∧ ∀ c ∈ ck.cps.toList, c < 1114112
theorem clock1 : ClockOk (PySem.Str.ofString "23:59:58.1234567") := ⟨by decide +kernel, by decide +kernel, by decide +kernel⟩
theorem clock2 : ClockOk (PySem.Str.ofString "235958,1234567") := ⟨by decide +kernel, by decide +kernel, by decide +kernel⟩
theorem names3 {h₀ h : Heap} {L a b c : Addr} {oa ob oc : Obj} (_ : News h₀ L h [(a, oa), (b, ob), (c, oc)]) {P : Prop} (k : ∀ a' b' oa' oc', a' = a → b' = b → oa' = oa → oc' = oc → P) : P := k a b oa oc rfl rfl rfl rfl
theorem start_ints {h₀ h : Heap} {L a b c : Addr} {oa oc : Obj} {ws : List Value} {scr : List Int} (N : News h₀ L h [(a, oa), (b, W.listOf ws.toArray 0), (c, oc)]) (hI : IntsAre ws (List.take 64 scr)) :
    ∃ sv : Array Value, News h₀ L h [(a, oa), (b, W.listOf sv 0), (c, oc)] ∧ sv.size ≤ 64 ∧ ∀ (i : Nat) (v : Value), sv[i]? = some v → ∃ n t, v = .int n t := by
  refine ⟨ws.toArray, N, ?_, fun i v hv => ?_⟩
  · rw [List.size_toArray, hI.length, List.length_take]
    omega
  · have hv' : ws[i]? = some v := by simpa using hv
    have hi : i < (List.take 64 scr).length := by
      rw [← hI.length]
      exact (List.getElem?_eq_some_iff.mp hv').1
    obtain ⟨t, e⟩ := hI.get i _ (List.getElem?_eq_getElem hi)
    rw [hv'] at e
    exact ⟨_, t, Option.some.inj e⟩
theorem names4 {h₀ h : Heap} {L a b c d : Addr} {oa ob oc od : Obj} (_ : News h₀ L h [(a, oa), (b, ob), (c, oc), (d, od)]) {P : Prop} (k : ∀ od', od' = od → P) : P := k od rfl
theorem charAt_lt {x : PySem.Str} {i : Int} {n : Nat} (h : ∀ c ∈ x.cps.toList, c < n) (hn : 0 < n) : (Txt.charAt x i).getD 0 < n := by
  cases e : Txt.charAt x i with
  | none => exact hn
  | some c =>
    unfold Txt.charAt at e
    obtain ⟨k, _, hk⟩ := Option.bind_eq_some_iff.mp e
    exact h c (Array.mem_toList_iff.mpr (Array.mem_of_getElem? hk))
/-- what is told of a text: four numbers, or the words of a fault -/
def Tells (x : PySem.Str) (o : Obj) : Prop :=
  (∃ (a b d f : Int) (t1 t2 t3 t4 : Tok) (c : Nat), parseP x = .ok [a, b, d, f] ∧ o = W.listOf #[.int a t1, .int b t2, .int d t3, .int f t4] c) ∨
  (∃ msg t c, parseP x = .error msg ∧ o.cls = .type "tuple" ∧ o.data = .seq #[.str msg t] c)
theorem names5h {h₀ h : Heap} {L a b c d e : Addr} {oa ob oc od oe : Obj} (_ : News h₀ L h [(a, oa), (b, ob), (c, oc), (d, od), (e, oe)]) {P : Prop} (k : ∀ a' oa', a' = a → oa' = oa → P) : P := k a oa rfl rfl
theorem fr_back {h₀ g h : Heap} {L : Addr} {m : Str → Option Value} (T : KtsTurn [] h₀ g) (F : Fr g L h m) : Fr h₀ L h m := ⟨F.ns, fun b o e => F.keep b o (T.other b o e (fun z => nomatch z)), by rw [← T.size]; exact F.above⟩
theorem news_back {h₀ g h : Heap} {L : Addr} {nw : List (Addr × Obj)} (T : KtsTurn [] h₀ g) (N : News g L h nw) : News h₀ L h nw := fun p hp => ⟨(N p hp).1, (N p hp).2.1, by
  cases e : h₀.get? p.1 with
  | none => rfl
  | some o =>
    have := T.other _ _ e (fun z => nomatch z)
    rw [(N p hp).2.2] at this
    cases this⟩
theorem cutYC {M : Model} {A : Around} {t : Sem Flow} {Q : Flow → Shared → Prop} {E : Value → Shared → Prop} {s : Shared} (h₀ : Heap) (L : Addr) (P : (Str → Option Value) → List (Addr × Obj) → Prop)
    (h : ∀ E', wpC M A t (AtY h₀ L s P) E' s) (k : ∀ h' tk m' nw, Fr h₀ L h' m' → News h₀ L h' nw → P m' nw → Q .next { s with heap := h', toks := tk }) : wpC M A t Q E s :=
  wpC_mono (h _) (fun f s' q => by obtain ⟨rfl, h', tk, m', nw, rfl, F, N, x⟩ := q; exact k h' tk m' nw F N x) fun _ _ e => e
theorem below_at {A : Around} {h₀ h : Heap} {L : Addr} {m : Str → Option Value} {o : List Env} (_ : Fr h₀ L h m) (B : Below A h₀ o h₀) : Below A h₀ o h₀ := B
theorem zeros63 : ∀ c ∈ (Txt.mul (PySem.Str.ofString "0") 63).cps.toList, c < 1114112 := by decide +kernel
theorem cat_cp {x y : PySem.Str} {n : Nat} (h1 : ∀ c ∈ x.cps.toList, c < n) (h2 : ∀ c ∈ y.cps.toList, c < n) : ∀ c ∈ (x ++ y).cps.toList, c < n := fun c hc => by
  rw [cat_toList] at hc
  exact (List.mem_append.mp hc).elim (h1 c) (h2 c)
theorem law_holds : PySem.Challenge.rw_km0086_07.Holds := Mine.hd (by
  w_top off
  k_fill
  intro w s₀ s₁ mg mb G Y fa o pm cd doc dV kV ho hd hcd hD hmg hg args vals as hpre hlay hrd hwl hlo
  have KX := kIn_of Y
  have X := (Ground.X G).1
  have V := (Ground.X G).2
  have GL := glob_more (Ground.glob G (by first | k_qdec | decide +kernel) (by first | k_qdec | decide +kernel)) V
  refine Ground.open G ?_
  intro T B D TE TW
  try (refine guard_noD D (by decide +kernel) ?_; clear D)
  obtain ⟨_, _, M⟩ := bmod_of_top T
  have TA := at_of_top T
  try (obtain ⟨_, _, he, B0⟩ := based_of_top T rfl hmg ho hd; have he' : cd = _ := he; subst he'; clear he)
  clear hmg
  wrow_args hpre hlay hrd hwl hlo
  refine enter_callC ?_
  w_top on
  refine codeC_mono ?_ (fun _ _ g => GoodW.toG g)
  have K0 := below_caller (Top.heap T)
  have he := Dflts.none hD rfl
  subst he
  refine call_cellsC (by decide) ho hd (Top.nolimit T) hcd (BindsTo.of_eq rfl) rfl (by decide) fun h₁ tk₁ cells F N0 X0 => ?_
  k_cells X0
  clear hd TA
  k_drop
  (all_goals try k_fold)
  dsimp only
  (with_reducible rename Fr _ _ _ _ => F1)
  (with_reducible rename News _ _ _ _ => N1)
  refine wpC_execs_cons (wpC_any ?_)
  k_steps
  rename IntsAre _ (List.take 64 _) => hH
  (with_reducible rename Fr _ _ _ _ => F2)
  (with_reducible rename News _ _ _ _ => N2)
  rename Obj.data _ = Data.cell _ => dK
  rename @LT.lt Nat _ _ _ => lK

  dsimp only
  refine wpC_execs_cons (wpC_For ?_)
  k_steps
  (with_reducible rename Fr _ _ _ _ => F3)
  (with_reducible rename News _ _ _ _ => N3)
  rename _ ∧ (_ : Nat) < _ => l3
  refine names3 N3 fun lt ls oT oC elt els eoT eoC => ?_
  subst elt els
  have hoc : oT.cls = .type "tuple" := by rw [eoT]
  obtain ⟨tA, tB, cT, hod⟩ : ∃ tA tB cT, oT.data = .seq #[.str (PySem.Str.ofString "23:59:58.1234567") tA, .str (PySem.Str.ofString "235958,1234567") tB] cT := ⟨_, _, _, by rw [eoT]⟩
  rw [← eoT] at N3
  rw [← eoC] at N3 dK
  clear eoT eoC
  obtain ⟨sv, N4, hsv, hsi⟩ := start_ints N3 hH
  have hcl : ∃ v, oC.data = .cell v := ⟨_, dK⟩
  clear dK N3
  generalize hL : s₁.heap.objs.size = L at *
  obtain ⟨m3, hm3, em3⟩ : ∃ m3 : Str → Option Value, m3 ("script" : Str) = some (.ref ls) ∧ Fr s₁.heap L _ m3 := ⟨_, if_pos rfl, F3⟩
  clear F3
  refine tupleC (fun i m nw => m ("script" : Str) = some (.ref ls) ∧ ∃ oc v, nw = [(lt, oT), (ls, W.listOf sv 0), (L + 1, oc)] ∧ oc.data = .cell v) hoc hod rfl ?_ em3 N4 ⟨hm3, oC, hcl.choose, rfl, hcl.choose_spec⟩ ?_ ?_ ?_
  · rintro i m nw ⟨_, oc, v, rfl, _⟩
    exact .head _
  · passes_own
  · rintro i v m₁ nw h tk I oI hi hv ⟨ks, oc, v0, rfl, dc⟩ hoff FT NT
    obtain ⟨ck, tck, rfl, hck⟩ : ∃ ck t, v = .str ck t ∧ ClockOk ck := by
      have hi' : i = 0 ∨ i = 1 := by
        have : i < 2 := hi
        omega
      rcases hi' with rfl | rfl
      · exact ⟨_, _, (Option.some.inj hv).symm, clock1⟩
      · exact ⟨_, _, (Option.some.inj hv).symm, clock2⟩
    rw [map_at ks] at FT
    have hK1 : (@Ne Nat lt (L + 1)) := Nat.ne_of_gt l3.2
    have hK2 : (@Ne Nat ls (L + 1)) := Nat.ne_of_gt lK
    have hK3 : (@Ne Nat I (L + 1)) := (hoff (L + 1, oc) (.tail _ (.tail _ (.head _)))).symm
    have hK4 : (@Ne Nat lt I) := hoff _ (.head _)
    have hK5 : (@Ne Nat ls I) := hoff _ (.tail _ (.head _))
    clear N4 em3
    k_steps
    (with_reducible rename Fr s₁.heap L _ _ => F5)
    (with_reducible rename News s₁.heap L _ _ => N5)
    rename Obj.data _ = Data.cell (some (Value.str ck tck)) => dK
    refine names4 N5 fun oc5 e5 => ?_
    rw [← e5] at N5 dK
    clear e5
    dsimp only
    refine wpC_execs_cons (wpC_any (cutY s₁.heap L (fun m' nw => m' ("script" : Str) = some (.ref ls) ∧ (∃ sp t, m' ("spelled" : Str) = some (.str sp t) ∧ sp.length ≤ 64 ∧ ∀ c ∈ sp.cps.toList, c < 1114112) ∧ nw = [(I, oI), (lt, oT), (ls, W.listOf sv 0), (L + 1, oc5)]) (fun E' => ?_) ?_))
    · k_steps
      (with_reducible rename Fr s₁.heap _ _ _ => FL)
      refine ListComp_enum FL (by with_unfolding_all rfl) (by decide) (by with_unfolding_all rfl) (by decide) (by with_unfolding_all rfl) (by with_unfolding_all rfl) (by decide) (by intro _; with_unfolding_all rfl) ?_
      k_steps
      (with_reducible rename Fr s₁.heap _ _ _ => FC)
      (with_reducible rename News s₁.heap _ _ _ => NC)
      refine enum_src (l := ls) (items := sv) (n := 0) (fun i ys nw => nw = [(I, oI), (lt, oT), (ls, W.listOf sv 0), (L + 1, oc5)] ∧ SignsAre ys i) rfl FC NC (Nat.le_trans hsv (by decide)) ⟨rfl, .nil⟩ ?_ ?_ ?_
      · rintro i ys nw ⟨rfl, hy⟩
        exact ⟨hy.len, .tail _ (.tail _ (.head _))⟩
      · rintro e it i v t ys nw oe oi C oC D m₂ h tk E2 hv ⟨rfl, hy⟩ hC hki hkc FT NT off
        clear FC NC
        obtain ⟨n, tn, rfl⟩ := hsi i v hv
        have hi64 : i < 64 := by
          have := (Array.getElem?_eq_some_iff.mp hv).1
          omega
        obtain ⟨hc1, hc2, hc3⟩ := hck
        k_steps
        (with_reducible rename Fr _ _ _ _ => FB)
        (with_reducible rename News _ _ _ _ => NB)
        rename Below _ _ _ _ => B7
        rename Top _ _ _ _ _ _ => T7
        replace B7 := below_at FB B7
        refine sign7 B7 FB KX NB T7 rfl rfl rfl (by k_room) rfl (charAt_lt (cat_cp hc3 zeros63) (by decide)) ?_
        intro h6 tk6 c6 t6 hc6 F6 N6
        k_steps
        exact ⟨h6, tk6, _, rfl, F6, N6, off, rfl, hy.snoc hc6⟩
      · rintro D h tk ys nw FT NT off ⟨rfl, hy⟩
        clear FC NC
        k_steps
        dsimp only [List.cons_append, List.nil_append]
        (with_reducible rename News s₁.heap _ _ _ => NJ)
        refine join_signs ⟨_, (NJ _ (.head _)).1, rfl, _, rfl⟩ hy hsv fun sp tsp ksp h1 h2 => ?_
        dsimp only
        k_steps
        (with_reducible rename Fr s₁.heap _ _ _ => FE)
        (with_reducible rename News s₁.heap _ _ _ => NE)
        exact ⟨rfl, _, _, _, _, rfl, FE, news_sub NE fun z hz => .tail _ hz, (if_neg (by decide)).trans (if_pos rfl), ⟨sp, _, if_pos rfl, by rw [h1]; exact hsv, h2⟩, rfl⟩
    clear F5 N5
    rintro h7 tk7 m7 nw7 F7 N7 ⟨ks7, ⟨sp, tsp, ksp, hspl, hspc⟩, rfl⟩
    rw [map_at ks7, map_at ksp] at F7
    dsimp only
    obtain ⟨hc1, hc2, hc3⟩ := hck
    refine wpC_execs_one (wpC_For ?_)
    k_steps
    rename (Txt.slice ck _ _).length ≤ _ => hsl1
    rename _ ∧ (sp ++ _).length ≤ _ => hsl2
    have hx1 : sp.length ≤ 100 ∧ ∀ c ∈ sp.cps.toList, c < 16 ^ 8 := ⟨by omega, fun c hc => Nat.lt_trans (hspc c hc) (by decide)⟩
    have hx2 : (sp ++ Txt.slice ck (some (sp.length : Int)) none).length ≤ 100 ∧ ∀ c ∈ (sp ++ Txt.slice ck (some (sp.length : Int)) none).cps.toList, c < 16 ^ 8 :=
      ⟨by omega, fun c hc => Nat.lt_trans (cat_cp hspc (fun c hc => hc3 c (slice_cp hc)) c hc) (by decide)⟩
    clear hsl1 hsl2
    (with_reducible rename Fr s₁.heap L _ _ => F8)
    (with_reducible rename News s₁.heap L _ _ => N8)
    refine names5h N8 fun l2 o2 el2 eo2 => ?_
    subst el2
    have ho2c : o2.cls = .type "tuple" := by rw [eo2]
    obtain ⟨tu, tv, x2, hx2e, c2, ho2d⟩ : ∃ tu tv x2, (x2.length ≤ 100 ∧ ∀ c ∈ x2.cps.toList, c < 16 ^ 8) ∧ ∃ c2, o2.data = .seq #[.str sp tu, .str x2 tv] c2 := ⟨_, _, _, hx2, _, by rw [eo2]⟩
    rw [← eo2] at N8
    clear eo2 hx2
    rename _ ∧ (_ : Nat) < l2 ∧ _ => l8
    dsimp only
    obtain ⟨m8, hm8, em8⟩ : ∃ m8 : Str → Option Value, m8 ("script" : Str) = some (.ref ls) ∧ Fr s₁.heap L _ m8 := ⟨_, if_pos rfl, F8⟩
    clear F8
    refine tupleC (fun i m nw => m ("script" : Str) = some (.ref ls) ∧ nw = [(l2, o2), (I, oI), (lt, oT), (ls, W.listOf sv 0), (L + 1, oc5)]) ho2c ho2d rfl ?_ em8 N8 ⟨hm8, rfl⟩ ?_ ?_ ?_
    · rintro i m nw ⟨_, rfl⟩
      exact .head _
    · passes_own
    · rintro i2 v m₂ nw h tk I2 oI2 hi2 hv2 ⟨ks2, rfl⟩ hoff2 FT NT
      obtain ⟨x, tx, rfl, hxl, hxc⟩ : ∃ x t, v = .str x t ∧ x.length ≤ 100 ∧ ∀ c ∈ x.cps.toList, c < 16 ^ 8 := by
        have hi' : i2 = 0 ∨ i2 = 1 := by
          have : i2 < 2 := hi2
          omega
        rcases hi' with rfl | rfl
        · exact ⟨_, _, (Option.some.inj hv2).symm, hx1⟩
        · exact ⟨_, _, (Option.some.inj hv2).symm, hx2e⟩
      rw [map_at ks2] at FT
      clear N8 em8
      k_steps
      dsimp only
      refine wpC_execs_cons (cutYC s₁.heap L (fun m' nw => m' ("script" : Str) = some (.ref ls) ∧ m' ("text" : Str) = some (.str x tx) ∧ ∃ ld od, m' ("due" : Str) = some (.ref ld) ∧ nw = [(ld, od), (I2, oI2), (l2, o2), (I, oI), (lt, oT), (ls, W.listOf sv 0), (L + 1, oc5)] ∧ Tells x od) (fun E' => ?_) ?_)
      · refine wpC_Assign_Name (wpC_Call_Name ?_)
        k_steps
        have h48 := KX 48 _ (by k_is)
        refine wpC_callWith_fun (hdat := (show Obj.data _ = .func _ from rfl)) (wpAny_mono (Q := fun vs s₂ => (∀ b o, s₁.heap.get? b = some o → s₂.heap.get? b = some o) ∧ wpC _ _ (call (.ref 48) vs) _ _ s₂) ?_ (fun vs s₁ q => ⟨q.1 _ _ h48, q.2⟩) fun _ _ q => q)
        k_steps
        (with_reducible rename Fr _ _ _ _ => FB)
        (with_reducible rename News _ _ _ _ => NB)
        rename Below _ _ _ _ => B7
        rename Top _ _ _ _ _ _ => T7
        replace B7 := below_at FB B7
        refine due7 (outer := []) B7 FB KX KX T7 NB T7 (fun b hb => nomatch hb) KtsTurn.refl rfl rfl rfl (by k_room) rfl (by walk_at "units") hxl hxc ?_
        intro g2 h9 tk9 ld od hdue G2 F9 N9
        have F10 := fr_back G2.turn F9
        have N10 := news_back G2.turn N9
        have hte : Tells x od := due_tells hdue
        clear F9 N9 G2 hdue FB NB
        k_steps
        (with_reducible rename Fr s₁.heap _ _ _ => FE)
        (with_reducible rename News s₁.heap _ _ _ => NE)
        exact ⟨rfl, _, _, _, _, rfl, FE, NE, (if_neg (by decide)).trans ((if_neg (by decide)).trans (if_pos rfl)), (if_neg (by decide)).trans (if_pos rfl), ld, od, if_pos rfl, rfl, hte⟩
      rintro h11 tk11 m11 nw11 F11 N11 ⟨ks11, kt11, ld, od, kd11, rfl, hte⟩
      rw [map_at ks11, map_at kt11, map_at kd11] at F11
      dsimp only
      refine wpC_execs_cons (cutYC s₁.heap L (fun m' nw => m' ("script" : Str) = some (.ref ls) ∧ m' ("due" : Str) = some (.ref ld) ∧ ∃ lT oU, m' ("told" : Str) = some (.ref lT) ∧ nw = [(lT, oU), (ld, od), (I2, oI2), (l2, o2), (I, oI), (lt, oT), (ls, W.listOf sv 0), (L + 1, oc5)] ∧ Tells x oU) (fun E' => ?_) ?_)
      · refine wpC_Try_except (wpC_execs_cons (wpC_Assign_Name (wpC_Call_Name ?_)))
        k_steps
        have h29 := KX 29 _ (by k_is)
        refine wpC_callWith_fun (hdat := (show Obj.data _ = .func _ from rfl)) (wpAny_mono (Q := fun vs s₂ => (∀ b o, s₁.heap.get? b = some o → s₂.heap.get? b = some o) ∧ wpC _ _ (call (.ref 29) vs) _ _ s₂) ?_ (fun vs s₁ q => ⟨q.1 _ _ h29, q.2⟩) fun _ _ q => q)
        k_steps
        (with_reducible rename Fr _ _ _ _ => FB)
        (with_reducible rename News _ _ _ _ => NB)
        rename Below _ _ _ _ => B7
        rename Top _ _ _ _ _ _ => T7
        replace B7 := below_at FB B7
        refine parse B7 FB KX NB T7 rfl rfl rfl (by k_room) rfl (by walk_at "units") hxl hxc ?_ ?_
        · intro h12 tk12 l12 a b d f t1 t2 t3 t4 c12 hp12 F12 N12 _
          clear FB NB
          dsimp only
          k_steps
          dsimp only
          refine wpC_execs_nil ?_
          dsimp only
          refine wpAny_execs_nil ?_
          (with_reducible rename Fr s₁.heap _ _ _ => FE)
          (with_reducible rename News s₁.heap _ _ _ => NE)
          exact ⟨rfl, _, _, _, _, rfl, FE, NE, (if_neg (by decide)).trans (if_pos rfl), (if_neg (by decide)).trans ((if_neg (by decide)).trans ((if_neg (by decide)).trans (if_pos rfl))), l12, _, if_pos rfl, rfl, .inl ⟨a, b, d, f, t1, t2, t3, t4, c12, hp12, rfl⟩⟩
        · intro g12 h12 e12 tt12 tk12 tk12' msg hm12 F12 R12 U12
          clear FB NB
          dsimp only
          refine caught_KBX B7 F12 U12 R12.toK (topRead_of T7) KX (by k_is) (by boot_by_name) PySem.F.isExc_ValueError PySem.F.notTuple_ValueError (by rw [isSubtype_type]; kernel_rfl) ?_
          intro h13 newsA tkA FA NA GA NB
          obtain ⟨oe, ot, NM, GM⟩ := got_join NA GA NB
          obtain ⟨oe2, ot2, ws2, nt2, me2, mt2, hec, hed, hw0, htc, htd⟩ := id GA
          have eot : ot = ot2 := Option.some.inj ((NM _ (.head _)).1.symm.trans (NA _ mt2).1)
          rw [← eot] at htc htd
          clear NA NB
          k_steps
          dsimp only
          (with_reducible rename Fr s₁.heap _ _ _ => FB)
          (with_reducible rename News s₁.heap _ _ _ => NB)
          refine name_goes_X FB NB ?_
          intro hC vC FC NC
          dsimp only
          refine ⟨rfl, _, _, _, _, rfl, FC, news_sub NC fun z hz => ?_, (if_neg (by decide)).trans ((if_neg (by decide)).trans ((if_neg (by decide)).trans (if_pos rfl))), (if_neg (by decide)).trans ((if_neg (by decide)).trans ((if_neg (by decide)).trans ((if_neg (by decide)).trans ((if_neg (by decide)).trans (if_pos rfl))))), tt12, ot, (if_neg (by decide)).trans (if_pos rfl), rfl, .inr ⟨msg, tk12', _, hm12, htc, htd⟩⟩
          rcases List.mem_cons.mp hz with rfl | hz
          · exact .head _
          · exact .tail _ (.tail _ hz)
      clear F11 N11
      rintro h15 tk15 m15 nw15 F15 N15 ⟨ks15, kd15, lU, oU, kt15, rfl, htu⟩
      rw [map_at ks15, map_at kd15, map_at kt15] at F15
      dsimp only
      have hI2 := hoff2
      have hI2' : ∀ p ∈ ([(l2, o2), (I, oI), (lt, oT), (ls, W.listOf sv 0), (L + 1, oc5)] : List (Addr × Obj)), p.1 ≠ I2 := hoff2
      refine wpC_execs_cons (wpC_If ?_)
      k_steps
      rcases htu with ⟨a, b, d, f, t1, t2, t3, t4, cc, hp, rfl⟩ | ⟨msg, tm, cm, hp, hcU, hdU⟩
      · rcases hte with ⟨a', b', d', f', u1, u2, u3, u4, cd', hp', rfl⟩ | ⟨msg', _, _, hp', _⟩
        rotate_left
        · rw [hp] at hp'
          cases hp'
        obtain ⟨ea, eb, ed, ef⟩ : a = a' ∧ b = b' ∧ d = d' ∧ f = f' := by
          rw [hp] at hp'
          have q := Except.ok.inj hp'
          simp only [List.cons.injEq, and_true] at q
          exact q
        subst ea eb ed ef
        clear hp hp'
        refine ne_four N15 (.head _) (.tail _ (.head _)) (by walk_at "units") ?_
        k_steps
        refine wpC_execs_nil ?_
        dsimp only
        refine wpC_execs_one (wpC_If ?_)
        k_steps
        (with_reducible rename Fr s₁.heap _ _ _ => FL)
        (with_reducible rename News s₁.heap _ _ _ => NL)
        refine ListComp_none (ax := lU) FL NL rfl ?_ (.inr (.head _)) (Nat.le_of_ble_eq_true rfl) (by with_unfolding_all rfl) (by decide) (by with_unfolding_all rfl) (by decide) (by with_unfolding_all rfl) (by intro _; with_unfolding_all rfl) ?_ ?_
        · intro Q' hQ'
          k_steps
          exact hQ'
        · intro i5 v5 I5 oI5 C5 oC5 D5 m5 h5 tk5 E5 hv5 hC5 hm5 FC NC
          obtain ⟨z5, tz5, rfl⟩ : ∃ z t, v5 = .int z t := by
            have hi5 : i5 < 4 := (Array.getElem?_eq_some_iff.mp hv5).1
            have hi5' : i5 = 0 ∨ i5 = 1 ∨ i5 = 2 ∨ i5 = 3 := by omega
            rcases hi5' with rfl | rfl | rfl | rfl <;> exact ⟨_, _, (Option.some.inj hv5).symm⟩
          clear FL NL
          k_steps
          (with_reducible rename Fr s₁.heap _ _ _ => FE)
          (with_reducible rename News s₁.heap _ _ _ => NE)
          exact TestOff.intro FE NE (fun p hp => hp)
        · intro D5 h5 tk5 FN NN off5
          clear FL NL
          k_steps
          (with_reducible rename News s₁.heap _ _ _ => NK)
          refine ne_nil (ys := []) (c1 := 0) (c2 := 0) NK (.tail _ (.head _)) (.head _) (by walk_at "units") ?_
          k_steps
          refine wpC_execs_nil ?_
          (with_reducible rename Fr s₁.heap _ _ _ => FE)
          (with_reducible rename News s₁.heap _ _ _ => NE)
          show JEnd _ _ _ _ _ _ _
          exact JEnd.intro _ FE NE (.tail _ (.tail _ (.tail _ (.tail _ (.head _))))) (fun p hp => .tail _ (.tail _ (.tail _ (.tail _ (.tail _ hp))))) hI2' ⟨if_pos rfl, rfl⟩
      · rcases hte with ⟨a', b', d', f', u1, u2, u3, u4, cd', hp', rfl⟩ | ⟨msg', tm', cm', hp', hcD, hdD⟩
        · rw [hp] at hp'
          cases hp'
        obtain rfl : msg = msg' := by
          rw [hp] at hp'
          exact Except.error.inj hp'
        clear hp hp'
        refine ne_msg N15 (.head _) (.tail _ (.head _)) hcU hdU hcD hdD (by walk_at "units") ?_
        obtain ⟨ocl, od1, odt, osl⟩ := oU
        dsimp only at hcU hdU
        subst hcU hdU
        k_steps
        refine wpC_execs_nil ?_
        dsimp only
        refine wpC_execs_one (wpC_If ?_)
        k_steps
        refine wpC_execs_nil ?_
        (with_reducible rename Fr s₁.heap _ _ _ => FE)
        (with_reducible rename News s₁.heap _ _ _ => NE)
        show JEnd _ _ _ _ _ _ _
        exact JEnd.intro _ FE NE (.tail _ (.tail _ (.head _))) (fun p hp => .tail _ (.tail _ (.tail _ hp))) hI2' ⟨if_pos rfl, rfl⟩
    · rintro m' nw h tk ⟨ks, rfl⟩ FT NT
      show JEnd _ _ _ _ _ _ _
      have hI1 : ∀ p ∈ ([(lt, oT), (ls, W.listOf sv 0), (L + 1, oc5)] : List (Addr × Obj)), p.1 ≠ I := List.forall_mem_cons.mpr ⟨hK4, List.forall_mem_cons.mpr ⟨hK5, List.forall_mem_cons.mpr ⟨hK3.symm, List.forall_mem_nil _⟩⟩⟩
      exact JEnd.intro _ FT NT (.tail _ (.head _)) (fun p hp => .tail _ (.tail _ hp)) hI1 ⟨ks, oc5, _, rfl, dK⟩
  · rintro m' nw h tk ⟨ks, oc, v, rfl, _⟩ FT NT
    dsimp only
    refine wpC_execs_one ?_
    refine wpC_any ?_
    k_steps)
end Mine
end
end
end
end
theorem PySem.Challenge.cw_km0086_07_holds : PySem.Challenge.rw_km0086_07.Holds := by
  exact Mine.law_holds
