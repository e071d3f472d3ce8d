import PyProof.Rows.All
import Wide.All
import OpenK.AllK
import Wide.FinOn
import PyProof.StrLawsRepr
import PyProof.Draws
import KE.IntTextLaws
import KE.KIntText
import PySem.Challenge.RW_km0086_08
set_option Elab.async false
section
open PySem PySem.W PyProof.Rows PySem.Calls
set_option maxRecDepth 100000
namespace Mine
/-- the stack bears the claim's caller -/
def HasC (l : List (Code × Pos)) : Prop := (l.map (·.1)).any Code.isCaller = true
theorem HasC.cons {x : Code × Pos} {l : List (Code × Pos)} (h : HasC l) : HasC (x :: l) := by
  unfold HasC at *
  rw [List.map_cons, List.any_cons, h, Bool.or_true]
/-- a tree at every stack within A that bears the claim's caller -/
def wpC {α : Type} (M : Model) (A : Around) (t : Sem α) (Q : α → Shared → Prop) (E : Value → Shared → Prop) (s : Shared) : Prop :=
  ∀ Γ p, Γ.In A → HasC ((Γ.code, p) :: Γ.below) → Sem.wp M Γ t (fun a _ s' => Q a s') (fun e _ s' => E e s') p s
def codeC (M : Model) (A : Around) (c : Code) (R : Result → Shared → Prop) (s : Shared) : Prop :=
  ∀ Γ p, Γ.code = c → Γ.Below A → HasC Γ.below → wpCode M Γ R p s
theorem hasC_pos {c : Code} {p p' : Pos} {l : List (Code × Pos)} (h : HasC ((c, p) :: l)) : HasC ((c, p') :: l) := h
section
variable {α β : Type} {M : Model} {A : Around} {E : Value → Shared → Prop} {s : Shared}
theorem wpC_any {t : Sem α} {Q : α → Shared → Prop} (h : wpAny M A t Q E s) : wpC M A t Q E s := fun Γ p hΓ _ => h Γ p hΓ
theorem codeC_any {c : Code} {R : Result → Shared → Prop} (h : codeAny M A c R s) : codeC M A c R s := fun Γ p hc hΓ _ => h Γ p hc hΓ
theorem wpC_mono {t : Sem α} {Q Q' : α → Shared → Prop} {E' : Value → Shared → Prop} (h : wpC M A t Q E s) (hQ : ∀ a s, Q a s → Q' a s) (hE : ∀ e s, E e s → E' e s) : wpC M A t Q' E' s :=
  fun Γ p hΓ hC => Sem.wp_mono M Γ t (fun a _ s => hQ a s) (fun e _ s => hE e s) p s (h Γ p hΓ hC)
theorem codeC_mono {c : Code} {R R' : Result → Shared → Prop} (h : codeC M A c R s) (hR : ∀ r s, R r s → R' r s) : codeC M A c R' s := fun Γ p hc hΓ hC => wpCode_mono hR (h Γ p hc hΓ hC)
theorem wpC_pure {a : α} {Q : α → Shared → Prop} (h : Q a s) : wpC M A (pure a) Q E s := fun _ _ _ _ => h
theorem wpC_bind {m : Sem α} {f : α → Sem β} {Q : β → Shared → Prop} (h : wpC M A m (fun a s' => wpC M A (f a) Q E s') E s) : wpC M A (m >>= f) Q E s := fun Γ p hΓ hC => by
  rw [Sem.wp_bind']
  exact Sem.wp_mono M Γ m (fun a p' s' h' => h' Γ p' hΓ (hasC_pos hC)) (fun _ _ _ h' => h') p s (h Γ p hΓ hC)
/-- the usual step: the first part needs no caller -/
theorem wpC_bindA {m : Sem α} {f : α → Sem β} {Q : β → Shared → Prop} (h : wpAny M A m (fun a s' => wpC M A (f a) Q E s') E s) : wpC M A (m >>= f) Q E s := wpC_bind (wpC_any h)
theorem wpC_onRaise {m : Sem α} {k : Value → Sem Unit} {Q : α → Shared → Prop} (h : wpC M A m Q (fun e s' => wpAny M A (k e) (fun _ s'' => E e s'') E s') s) : wpC M A (m.onRaise k) Q E s := fun Γ p hΓ hC => by
  rw [Sem.wp_onRaise]
  exact Sem.wp_mono M Γ m (fun _ _ _ h' => h') (fun e p' s' h' => h' Γ p' hΓ) p s (h Γ p hΓ hC)
theorem wpC_tryCatch {m : Sem α} {k : Value → Sem α} {Q : α → Shared → Prop} (h : wpC M A m Q (fun e s' => wpAny M A (k e) Q E s') s) : wpC M A (tryCatch m k) Q E s := fun Γ p hΓ hC => by
  rw [Sem.wp_tryCatch']
  exact Sem.wp_mono M Γ m (fun _ _ _ h' => h') (fun e p' s' h' => h' Γ p' hΓ) p s (h Γ p hΓ hC)
theorem wpC_holding {vs : List Value} {m : Sem α} {Q : α → Shared → Prop} (h : wpC M A m Q E s) : wpC M A (holding vs m) Q E s :=
  fun Γ p hΓ hC => by rw [Sem.wp_holding]; exact h Γ p hΓ hC
theorem wpC_of_eq {t t' : Sem α} {Q : α → Shared → Prop} (e : t = t') (h : wpC M A t' Q E s) : wpC M A t Q E s := e ▸ h
theorem wpC_standAt {f : Unit → Sem β} {pos : Pos} {Q : β → Shared → Prop} (h : wpC M A (f ()) Q E s) : wpC M A (standAt pos >>= f) Q E s := wpC_bindA (wpAny_standAt h)
theorem wpC_stack {Q : List (Code × Pos) → Shared → Prop} (h : ∀ st, HasC st → Q st s) : wpC M A stack Q E s := fun Γ p _ hC => by
  show Q ((Γ.code, p) :: Γ.below) s
  exact h _ hC
theorem wpC_run {c : Code} {h : Option Value} {Q : Flow → Shared → Prop} (hc : codeC M (A.mark h) c (fun r s' => match r with | .ok f => Q f s' | .error e => E e s') s) (hnb : h ≠ some byPass := by intro x; cases x) : wpC M A (run c h) Q E s :=
  fun Γ p hΓ hC => by rw [Sem.wp_run]; exact hc _ p rfl (hΓ.enter c h p hnb) hC
theorem wpC_call {f : Value} {pos : List Value} {kw : List (Str × Value)} {Q : Value → Shared → Prop} (hc : codeC M A (.call f ⟨pos, kw⟩) (fun r s' => match r with | .ok (.ret v) => Q v s' | .ok _ => False | .error e => E e s') s) : wpC M A (call f pos kw) Q E s := fun Γ p hΓ hC => by
  show Sem.wp M Γ (runValue (.call f ⟨pos, kw⟩)) _ _ p s
  rw [Sem.wp_runValue]
  exact hc _ p rfl (hΓ.enter _ none p (by intro x; cases x)) hC
theorem codeC_of_tree {c : Code} {R : Result → Shared → Prop} (h : wpC M (A.under c) (M.den c) (fun fin s' => match fin with | .done f => R (.ok f) s' | .again c' => c'.quiet = true ∧ codeC M A c' R s') (fun e s' => R (.error e) s') s) : codeC M A c R s := fun Γ p hc hΓ hC => by
  rw [wpCode_iff_wp, hc]
  refine Sem.wp_mono M Γ _ (fun fin p' s' h' => ?_) (fun _ _ _ h' => h') p s (h Γ p (hc ▸ hΓ.in) hC.cons)
  cases fin with
  | done f => exact h'
  | again c' => exact ⟨h'.1, h'.2 (Γ.goto c') p' rfl (hΓ.goto c') hC⟩
theorem codeC_loop {c : Code} {R : Result → Shared → Prop} (hq : c.quiet = true) (I : Nat → Shared → Prop)
    (turn : ∀ n s, I n s → wpC M (A.under c) (M.den c) (fun fin s' => match fin with | .done f => R (.ok f) s' | .again c' => (c' = c ∧ ∃ m, m < n ∧ I m s') ∨ (c'.quiet = true ∧ codeC M A c' R s')) (fun e s' => R (.error e) s') s)
    (n : Nat) (h : I n s) : codeC M A c R s := by
  induction n using Nat.strongRecOn generalizing s with
  | ind n ih =>
    refine codeC_of_tree (wpC_mono (turn n s h) (fun fin s' hf => ?_) fun _ _ h' => h')
    cases fin with
    | done f => exact hf
    | again c' =>
      rcases hf with ⟨rfl, m, hm, hI⟩ | hf
      · exact ⟨hq, ih m hm hI⟩
      · exact hf
variable {env : Env}
theorem wpC_execs_cons {st : Stmt} {rest : List Stmt} {Q : Flow → Shared → Prop}
    (h : wpC M A (exec st env) (fun f s' => match f with | .next => wpC M A (execs rest env) Q E s' | f => Q f s') E s) : wpC M A (execs (st :: rest) env) Q E s := fun Γ p hΓ hC => by
  rw [execs_cons, Sem.wp_bind']
  refine Sem.wp_mono M Γ _ (fun f p' s' h' => ?_) (fun _ _ _ h' => h') _ _ (h Γ p hΓ hC)
  cases f <;> first | exact h' Γ p' hΓ hC | exact h'
theorem wpC_runOwn {c : Code} {h : Option Value} {Q : Flow → Shared → Prop}
    (hc : codeC M (A.mark h) c (fun r s' => match r with | .ok f => Q f s' | .error e => cameBackBy M A env E e s') s) (hnb : h ≠ some byPass := by intro x; cases x) : wpC M A (runOwn c env h) Q E s := by
  unfold runOwn
  exact wpC_onRaise (wpC_run hc hnb)
theorem wpC_Assign_Name {x : Str} {pos' : Pos} {value : Expr} {pos : Pos} {Q : Flow → Shared → Prop}
    (h : wpC M A (eval value env) (fun v s₁ => wpAny M A (storeName env x v) (fun _ => Q .next) E s₁) E s) (hs : swapsWith value (some (.Name x pos')) pos.line env = pure false := by rfl) :
    wpC M A (exec (.Assign [.Name x pos'] value pos) env) Q E s := fun Γ p hΓ hC => by
  simp only [exec_Assign_Name env x pos' value pos hs, Sem.wp_bind', Sem.wp_cmd_standAt, Sem.wp_bindName, Sem.wp_pure']
  exact Sem.wp_mono M Γ _ (fun v _ s₁ h₁ => h₁ Γ _ hΓ) (fun _ _ _ h' => h') _ _ (h Γ _ hΓ hC)
theorem wpC_Return {e : Expr} {pos : Pos} {Q : Flow → Shared → Prop} (h : wpC M A (eval e env) (fun v => Q (.ret v)) E s) : wpC M A (exec (.Return (some e) pos) env) Q E s := fun Γ p hΓ hC => by
  simp only [exec_Return_some, Sem.wp_bind', Sem.wp_cmd_standAt, Sem.wp_pure']
  exact h Γ _ hΓ hC
theorem wpC_For {target iter : Expr} {body orelse : List Stmt} {pos : Pos} {Q : Flow → Shared → Prop}
    (h : wpAny M A (eval iter env) (fun x s₁ => wpAny M A (pyIter x) (fun it s₂ => codeC M A (.forLoop target it body orelse env) (fun r s' => match r with | .ok f => Q f s' | .error e => cameBackBy M A env E e s') s₂) E s₁) E s)
    (hs : ∀ x, foldedSetIterable iter env x = pure x := by intro _; rfl) : wpC M A (exec (.For target iter body orelse pos) env) Q E s := by
  rw [exec_For]
  refine wpC_standAt (wpC_bindA (wpAny_mono h (fun x s₁ h₁ => ?_) fun _ _ h' => h'))
  rw [hs x]
  refine wpC_bindA (wpAny_pure (wpC_standAt ?_))
  exact wpC_bindA (wpAny_holding (wpAny_mono h₁ (fun it s₂ h₂ => wpC_runOwn h₂) fun _ _ h' => h'))
end
section
variable {prog : Program} {w : World} {A : Around} {s : Shared} {env : Env} {R : Result → Shared → Prop}
theorem codeC_forLoop {target : Expr} {it : Value} {body orelse : List Stmt} (I : Nat → Shared → Prop)
    (turn : ∀ n s, I n s → wpAny (model prog w) A (pyNext it) (fun r s₁ => match r with
      | none => wpAny (model prog w) A (execs orelse env) (fun f s₃ => R (.ok f) s₃) (notedBy (model prog w) A env fun e s' => R (.error e) s') s₁
      | some v => wpAny (model prog w) A (assign target env v) (fun _ s₂ => wpC (model prog w) A (execs body env) (fun f s₃ => match f with
          | .next | .cont => ∃ m, m < n ∧ I m s₃
          | .brk => R (.ok .next) s₃
          | .ret v => R (.ok (.ret v)) s₃) (notedBy (model prog w) A env fun e s' => R (.error e) s') s₂) (notedBy (model prog w) A env fun e s' => R (.error e) s') s₁) (notedBy (model prog w) A env fun e s' => R (.error e) s') s)
    (n : Nat) (h : I n s) (ht : ∀ v, letOwnedTupleGo target it v = pure () := by intro _; rfl) : codeC (model prog w) A (.forLoop target it body orelse env) R s := by
  refine codeC_loop rfl I (fun n s hI => ?_) n h
  show wpC _ A ((forTurn target it body orelse env).onRaise (fun x => do noteFrame x env; theTreesLotGoes x)) _ _ s
  refine wpC_onRaise (wpC_mono (E := notedBy (model prog w) A env fun e s' => R (.error e) s') ?_ (fun _ _ q => q) fun x s' hx => wpAny_bind (wpAny_mono hx (fun _ _ e => wpAny_theTreesLotGoes e) fun _ _ e => e))
  simp only [forTurn]
  refine wpC_standAt (wpC_bindA (wpAny_onRaise (wpAny_mono (turn n s hI) (fun r s₁ h₁ => ?_) fun _ _ h' => wpAny_standAt h')))
  cases r with
  | none => exact wpC_pure (.inr ⟨rfl, codeC_any (codeAny_block h₁)⟩)
  | some v =>
    dsimp only
    rw [ht v]
    refine wpC_bindA (wpAny_pure ?_)
    refine wpC_bindA (wpAny_mono h₁ (fun _ s₂ h₂ => wpC_bind (wpC_mono h₂ (fun f s₃ h₃ => ?_) fun _ _ h' => h')) fun _ _ h' => h')
    cases f with
    | next => exact wpC_pure (.inl ⟨rfl, h₃⟩)
    | cont => exact wpC_pure (.inl ⟨rfl, h₃⟩)
    | brk => exact wpC_pure h₃
    | ret v => exact wpC_pure h₃
end
end Mine
end
section
open PySem PySem.W PyProof.Rows PySem.Calls
set_option maxRecDepth 100000
namespace Mine
section
variable {prog : Program} {w : World} {A : Around} {E : Value → Shared → Prop} {s : Shared} {R : Result → Shared → Prop}
theorem codeC_func {body : List Stmt} {env : Env}
    (h : wpC (model prog w) (A.deeper env) (execs body env) (fun f s' => R (.ok (.ret (match f with | .ret v => v | _ => .none))) s')
      (fun e s' => wpAny (model prog w) (A.deeper env) (leaving env e) (fun _ s'' => R (.error e) s'') (fun e' s'' => R (.error e') s'') s') s) :
    codeC (model prog w) A (.func body env) R s := by
  refine codeC_of_tree ?_
  show wpC _ (A.deeper env) (do point; match ← (execs body env).onRaise (leaving env) with | .ret v => ret v | _ => ret .none) _ _ s
  refine wpC_bindA (wpAny_point (wpC_bind (wpC_onRaise (wpC_mono h (fun f s' h' => ?_) fun _ _ h' => h'))))
  cases f <;> exact wpC_pure h'
theorem codeC_call_def {a : Addr} {o : Obj} {fd : FuncData} {body : List Stmt} {args : Args} {binds : List (Str × Value)}
    (hroom : A.depth < recursionLimit) (ho : s.heap.get? a = some o) (hdata : o.data = .func fd) (hlim : s.heap.NoLimit) (hcd : s.heap.CodeRec fd.code fd.qualname)
    (hbody : fd.body = .stmts body) (hbind : BindsTo s fd args binds) (hcell : ∀ x ∈ fd.scope.names, x.2 ≠ .cell) (hloc : ∀ x ∈ binds, fd.scope.names.lookup x.1 = some .local)
    (h : ∀ h₀, h₀.Ns s.heap.objs.size (fun x => binds.reverse.lookup x) → (∀ b o, s.heap.get? b = some o → h₀.get? b = some o) →
      wpC (model prog w) (A.deeper (callEnv fd s.heap.objs.size a)) (execs body (callEnv fd s.heap.objs.size a)) (fun f s' => R (.ok (.ret (match f with | .ret v => v | _ => .none))) s')
        (fun e s' => wpAny (model prog w) (A.deeper (callEnv fd s.heap.objs.size a)) (leaving (callEnv fd s.heap.objs.size a) e) (fun _ s'' => R (.error e) s'') (fun e' s'' => R (.error e') s'') s')
        { s with heap := h₀, toks := s.toks + binds.length })
    (hco : fd.scope.isCoroutine = false) (hgen : fd.scope.isGenerator = false) (hk : fd.scope.kind = .function) : codeC (model prog w) A (.call (.ref a) args) R s := by
  refine codeC_of_tree ?_
  show wpC _ A.in1 (callAny (.ref a) args) _ _ s
  simp only [callAny]
  refine wpC_bindA (wpAny_load ho ?_)
  obtain ⟨c, oc, vs, tq, hc, hoc, hdc, hq⟩ := hcd
  simp only [hdata, callFunction, hco, hgen, hbody, hc]
  refine wpC_bindA (m := field (.ref c) 1) (wpAny_field hoc hdc hq (wpC_bindA (wpAny_pure ?_)))
  refine wpC_bindA (hbind _ _ _ _ (wpC_bindA (wpAny_newFunctionEnv hcell hloc (fun h₀ hns₀ hsb₀ => ?_) hk)))
  refine wpC_bindA (wpAny_enterFrame (hlim.fresh _ hsb₀) hroom (wpC_pure ⟨rfl, ?_⟩))
  have e : callEnv fd s.heap.objs.size a = newEnv fd.scope s.heap.objs.size fd.globals fd.closure (fd.qualname ++ ".<locals>.") (some a) fd.code none fd.builtins := rfl
  rw [hc] at e
  rw [← e]
  exact codeC_func (h h₀ hns₀ fun b o e => hsb₀.extBut b o (Nat.ne_of_lt (Heap.lt_size e)) (Heap.get?_push_of_some _ e))
end
end Mine
end
section
open PySem PySem.W PyProof.Rows PySem.Calls PySem.NumText
set_option maxRecDepth 100000
set_option maxHeartbeats 4000000
namespace Mine
section
variable {prog : Program} {w : World} {A : Around} {E : Value → Shared → Prop} {s : Shared}
theorem wpC_ruleK {α : Type} {M : Model} {tag : String} {k : Unit → Sem α} {Q : α → Shared → Prop} (h : wpC M A (k ()) Q E s) : wpC M A (.rule tag k) Q E s := fun Γ p hΓ hC => by
  rw [Sem.wp_rule]
  exact h Γ p hΓ hC
theorem markC {M : Model} {own : List String} {e : Value} {Q : Unit → Shared → Prop} (h : Q () s) : wpC M A (markTheRefusal own e) Q E s := by
  unfold markTheRefusal
  refine wpC_bind (wpC_stack fun st hst => ?_)
  have hf : pythonCodeMadeTheCall own (st.map (·.1)) = false := by
    unfold pythonCodeMadeTheCall
    refine Bool.and_eq_false_iff.mpr (.inl (Bool.and_eq_false_iff.mpr (.inl ?_)))
    rw [Bool.not_eq_false']
    exact hst
  rw [hf]
  exact wpC_pure h
/-- what int says of a text that it does not read -/
def refusedText (x : PySem.Str) : PySem.Str := Str.ofString (toString "invalid literal for int() with base " ++ toString 10 ++ toString ": ") ++ { cps := (reprText x).cps.extract 0 200 }
theorem textC {x : PySem.Str} {t : Tok} {Q : Value → Shared → Prop} (hs : (numSeenOf x).length ≤ 640) (hr : (int_private% "readNumeral") 0 10 (numSeenOf x) = (int_private% "Numeral.invalid")) (hh : A.handled = none) (hsz : (reprText x).length ≤ sizeLine) (hsz2 : (refusedText x).length ≤ sizeLine)
    (h : ∀ h' tk e t', Heap.MadeExc s.heap h' e "ValueError" [.str (refusedText x) t'] → E (.ref e) { s with heap := h', toks := tk }) :
    wpC (model prog w) A ((int_private% "intFromText") (.str x t) (numTextOf x) 10) Q E s := by
  have hs' : (List.takeWhile (fun x => x != 0) (numTextOf x)).length ≤ 640 := hs
  have hr' : (int_private% "readNumeral") 0 10 (List.takeWhile (fun x => x != 0) (numTextOf x)) = (int_private% "Numeral.invalid") := hr
  (conv => arg 3; whnf)
  rw [show (List.takeWhile (fun x => x != 0) (numTextOf x)).length.decLe 640 = isTrue hs' from Subsingleton.elim _ _]
  (conv => arg 3; whnf)
  rw [hr']
  (conv => arg 3; whnf)
  refine wpC_ruleK ?_
  refine wpC_bindA (m := Sem.pure ()) (wpAny_pure ?_)
  dsimp only
  refine wpC_bindA (wpAny_of_eq (a := none) rfl ?_)
  dsimp only
  refine wpC_bindA (wpAny_pyRepr_str ?_ hsz)
  refine wpC_bindA (wpAny_mkStr ?_ hsz2)
  refine wpC_bindA (wpAny_newExc_plain (cls := "ValueError") plainExc_ValueError (fun h' e M => ?_) (Nat.le_of_ble_eq_true rfl))
  refine wpC_bind (markC (wpC_any (wpAny_raiseNew_none hh (h _ _ _ _ M))))
end
end Mine
end
section
open PySem PySem.W PyProof.Rows PySem.Calls PySem.NumText
set_option maxRecDepth 100000
set_option maxHeartbeats 4000000
namespace Mine
section
variable {prog : Program} {w : World} {A : Around} {E : Value → Shared → Prop} {s : Shared}
theorem objC {x : PySem.Str} {t : Tok} {Q : Value → Shared → Prop} (hs : (numSeenOf x).length ≤ 640) (hr : (int_private% "readNumeral") 0 10 (numSeenOf x) = (int_private% "Numeral.invalid")) (hh : A.handled = none) (hsz : (reprText x).length ≤ sizeLine) (hsz2 : (refusedText x).length ≤ sizeLine)
    (h : ∀ h' tk e t', Heap.MadeExc s.heap h' e "ValueError" [.str (refusedText x) t'] → E (.ref e) { s with heap := h', toks := tk }) :
    wpC (model prog w) A ((int_private% "intFromObject") (.str x t)) Q E s := by
  have hs' : (List.takeWhile (fun x => x != 0) (if (x.cps.all fun x => decide (x < 128)) = true then x.cps.toList else Unicode.numberText x.cps.toList)).length ≤ 640 := hs
  have hr' : (int_private% "readNumeral") 0 10 (List.takeWhile (fun x => x != 0) (if (x.cps.all fun x => decide (x < 128)) = true then x.cps.toList else Unicode.numberText x.cps.toList)) = (int_private% "Numeral.invalid") := hr
  (conv => arg 3; whnf)
  rw [show (List.takeWhile (fun x => x != 0) (if (x.cps.all fun x => decide (x < 128)) = true then x.cps.toList else Unicode.numberText x.cps.toList)).length.decLe 640 = isTrue hs' from Subsingleton.elim _ _]
  (conv => arg 3; whnf)
  rw [hr']
  (conv => arg 3; whnf)
  refine wpC_ruleK ?_
  refine wpC_bindA (m := Sem.pure ()) (wpAny_pure ?_)
  dsimp only
  refine wpC_bindA (wpAny_of_eq (a := none) rfl ?_)
  dsimp only
  refine wpC_bindA (wpAny_pyRepr_str ?_ hsz)
  refine wpC_bindA (wpAny_mkStr ?_ hsz2)
  refine wpC_bindA (wpAny_newExc_plain (cls := "ValueError") plainExc_ValueError (fun h' e M => ?_) (Nat.le_of_ble_eq_true rfl))
  refine wpC_bind (markC (wpC_any (wpAny_raiseNew_none hh (h _ _ _ _ M))))
theorem newC {x : PySem.Str} {t : Tok} {Q : Fin → Shared → Prop} (hs : (numSeenOf x).length ≤ 640) (hr : (int_private% "readNumeral") 0 10 (numSeenOf x) = (int_private% "Numeral.invalid")) (hh : A.handled = none) (hsz : (reprText x).length ≤ sizeLine) (hsz2 : (refusedText x).length ≤ sizeLine)
    (h : ∀ h' tk e t', Heap.MadeExc s.heap h' e "ValueError" [.str (refusedText x) t'] → E (.ref e) { s with heap := h', toks := tk }) :
    wpC (model prog w) A (Builtin.«int.__new__» ⟨[.type "int", .str x t], []⟩) Q E s := by
  (conv => arg 3; whnf)
  refine wpC_bindA (m := Bind.madeHere "int.__new__" (Value.type "int")) (wpAny_of_eq F.madeHere_int ?_)
  (conv => arg 3; whnf)
  exact wpC_bind (m := (int_private% "intFromObject") (.str x t)) (wpC_mono (Q := fun _ _ => False) (objC hs hr hh hsz hsz2 h) (fun _ _ z => z.elim) fun _ _ z => z)
theorem codeC_builtin {id : String} {args : Args} {b : Builtin} {R : Result → Shared → Prop} (hb : entryFor table id = some b)
    (h : wpC (model prog w) (A.under (.builtin id args)) (b args) (fun fin s' => match fin with | .done f => R (.ok f) s' | .again c' => c'.quiet = true ∧ codeC (model prog w) A c' R s') (fun e s' => R (.error e) s') s) :
    codeC (model prog w) A (.builtin id args) R s := by
  refine codeC_of_tree ?_
  show wpC _ _ (match entryFor table id with | some b => b args | none => unsupported ((withoutEnding? id "#data").getD id)) _ _ s
  rw [hb]; exact h
theorem typeC {x : PySem.Str} {t : Tok} {R : Result → Shared → Prop} (hs : (numSeenOf x).length ≤ 640) (hr : (int_private% "readNumeral") 0 10 (numSeenOf x) = (int_private% "Numeral.invalid")) (hh : A.handled = none) (hsz : (reprText x).length ≤ sizeLine) (hsz2 : (refusedText x).length ≤ sizeLine)
    (h : ∀ h' tk e t', Heap.MadeExc s.heap h' e "ValueError" [.str (refusedText x) t'] → R (.error (.ref e)) { s with heap := h', toks := tk }) :
    codeC (model prog w) A (.builtin "type.__call__" ⟨[.type "int", .str x t], []⟩) R s := by
  refine codeC_builtin F.entry_type_call ?_
  (conv => arg 3; whnf)
  refine wpC_bindA (m := Bind.madeBy (Value.type "int")) (wpAny_of_eq F.called_int.made ?_)
  dsimp only
  refine wpC_bindA (wpAny_pure ?_)
  refine wpC_bind (wpC_holding (wpC_call (codeC_of_tree ?_)))
  show wpC _ _ (do checkBuiltinCall "int.__new__" ⟨[.type "int", .str x t], []⟩; again (.builtin "int.__new__" ⟨[.type "int", .str x t], []⟩)) _ _ _
  refine wpC_bindA (wpAny_of_eq (F.newCall_int_1 _) (wpC_pure ⟨Code.quiet_builtin _ (by decide +kernel), codeC_builtin F.entry_int_new ?_⟩))
  exact wpC_mono (Q := fun _ _ => False) (newC hs hr hh hsz hsz2 h) (fun _ _ z => z.elim) fun _ _ z => z
/-- int of a text that it does not read -/
theorem call_int_refused {x : PySem.Str} {t : Tok} {Q : Value → Shared → Prop} (hs : (numSeenOf x).length ≤ 640) (hr : (int_private% "readNumeral") 0 10 (numSeenOf x) = (int_private% "Numeral.invalid")) (hh : A.handled = none) (hsz : (reprText x).length ≤ sizeLine) (hsz2 : (refusedText x).length ≤ sizeLine)
    (h : ∀ h' tk e t', Heap.MadeExc s.heap h' e "ValueError" [.str (refusedText x) t'] → E (.ref e) { s with heap := h', toks := tk }) :
    wpC (model prog w) A (call (.type "int") [.str x t]) Q E s := by
  refine wpC_call (codeC_of_tree ?_)
  show wpC _ _ (callAny (.type "int") _) _ _ _
  exact wpC_pure ⟨Code.quiet_builtin _ (by decide +kernel), typeC hs hr hh hsz hsz2 h⟩
end
end Mine
end
section
open PySem PySem.W PyProof.Rows PySem.Calls
set_option maxRecDepth 100000
namespace Mine
/-- the call of a law's function where the claim's caller stands below -/
theorem ends_C {prog : Program} {w : World} {t : Sem Fin} {s : Shared} {R : Result → Shared → Prop} (hz : s.asleep)
    (h : wpC (model prog w) callerA t (fun fin s' => ∃ f, fin = .done f ∧ R (.ok f) s' ∧ leftWithCleanup s'.gens = false) (fun e s' => R (.error e) s' ∧ leftWithCleanup s'.gens = false) s) :
    ∃ n r s' s'', runN (denote table) prog w n s ⟨t, .builtin "claim.caller" {}, default, []⟩ = .halted (outcomeOf r) s' ∧
      schedN (denote table) prog w n (.single s ⟨t, .builtin "claim.caller" {}, default, []⟩) = .halted (outcomeOf r) s' ∧ s'.forget = s''.forget ∧ R r s'' := by
  have hC : HasC ((Code.builtin "claim.caller" {}, (default : Pos)) :: []) := rfl
  have h0 := h _ default caller_in hC
  have h1 : Sem.wp (model prog w) ⟨.builtin "claim.caller" {}, none, none, [], none⟩ t (Sem.finPost (model prog w) ⟨.builtin "claim.caller" {}, none, none, [], none⟩ fun r s' => R r s' ∧ leftWithCleanup s'.gens = false) (fun e _ s' => R (.error e) s' ∧ leftWithCleanup s'.gens = false) default s :=
    Sem.wp_mono _ _ t (fun fin _ s' q => by obtain ⟨f, rfl, a, b⟩ := q; exact ⟨a, b⟩) (fun _ _ _ q => q) _ _ h0
  obtain ⟨n, r, s₁, s₂, hs, hn, hfo, hR⟩ := wp_halts_full (M := model prog w) (R := R) hz h1
  exact ⟨n, r, s₂, s₁, hn, hs, hfo, hR⟩
theorem callFrom_C {c : ClaimW} {tree : List Value → Sem Fin} {w : World} {s : Shared} {free : Addr → Prop} {gens : Prop} {kept : Heap → Prop} (hz : s.asleep) (hgens : s.gens = #[])
    (hspec : ∀ args, c.pre args = true → WData.layableAll args = true → ∀ ord : List DictEntry → List DictEntry, (∀ l, (ord l).Perm l) →
      ∃ vs s₁, layAllW c.records (classAt s.heap) w.params ord args s = some (vs, s₁) ∧
        wpC (model c.prog w) callerA (tree vs) (fun fin s' => ∃ f, fin = .done f ∧ (c.Ends s args vs s₁ (.ok f) s' ∧ s'.os = s.os ∧ AllBare s'.gens ∧ kept s'.heap))
          (fun e s' => c.Ends s args vs s₁ (.error e) s' ∧ s'.os = s.os ∧ AllBare s'.gens ∧ kept s'.heap) s₁) :
    c.CallFrom (fun vs => ⟨tree vs, .builtin "claim.caller" {}, default, []⟩) w free gens kept s := by
  intro args hpre hlay ord hord
  obtain ⟨vs, s₁, hl, hc⟩ := hspec args hpre hlay ord hord
  have rest := layAllW_rest _ _ _ hl
  obtain ⟨k, r, s', s'', hrun, hsched, hfo, hE, ho, hk⟩ := ends_C (R := fun r s' => c.Ends s args vs s₁ r s' ∧ s'.os = s.os ∧ kept s'.heap) (Shared.asleep_of_life rest.2.2.2 hz)
    (wpC_mono hc (fun fin s' q => by obtain ⟨f, e, a, b, d, g⟩ := q; exact ⟨f, e, ⟨a, b, g⟩, leftWithCleanup_false_of_bare d⟩) fun e s' q => by obtain ⟨a, b, d, g⟩ := q; exact ⟨⟨a, b, g⟩, leftWithCleanup_false_of_bare d⟩)
  obtain ⟨eh, _, _, eo, _⟩ := Shared.forget_eq hfo
  have hE' := hE.congr eh
  rw [← eh] at hk
  rw [← eo] at ho
  have hlife : s'.heap.life = s.heap.life := (runN_life _ _ _ hrun).trans rest.2.2.2
  refine ⟨vs, s₁, hl, k, _, s', hsched, ?_, (fun _ i x hx => by rw [hgens] at hx; simp at hx), hk, by rw [hlife], Shared.rest_eq ho⟩
  rcases hE' with ⟨v, rfl, d1, d2, d3, d4, d5⟩ | ⟨e, ob, cls, rfl, d1, d2, d3, d4, d5⟩
  · exact .inl ⟨v, rfl, d1, d2, d3, fun b o y _ => d4 b o y, d5⟩
  · exact .inr ⟨e, ob, cls, rfl, d1, d2, d3, d4, fun b o y _ => d5 b o y⟩
/-- WalkO at stacks that bear the caller -/
abbrev WalkOC (q : Program) (loose : List Str) (XP : (Str → Option Value) → Heap → Prop) (YP : World → Heap → Prop) (r : RowW) (d : DefRec) (kwd : List (Str × Expr)) : Prop :=
  ∀ (w : World) (s₀ s₁ : Shared) (mg mb : Str → Option Value), Ground q loose r.records XP w s₀ mg mb s₁.heap → YP w s₁.heap → ∀ (a : Addr) (o : Obj) (pm cd doc dV kV : Value), s₁.heap.get? a = some o →
    o.data = .func { docDef d.name d.params d.body d.scope pm cd doc with defaults := dV, kwdefaults := kV } → s₁.heap.CodeRec cd d.name → Dflts mg s₁.heap d.params kwd dV kV → mg d.name = some (.ref a) → s₁.gens = #[] →
    ∀ (args : List WData) (vals : List Value) (as : List Addr), r.claim.pre args = true → WData.layableAll args = true → ReadsAllW r.records (classAt s₀.heap) s₁.heap vals args as → WellAll w.params s₁.heap vals args → (∀ a ∈ as, (a == sysModules) = false) →
      wpC (model r.prog w) callerA (PySem.call (.ref a) vals) (fun v s' => GoodWG r.claim (classAt s₀.heap) (ExcName.means s₀.heap) args s₁ (.ok (.ret v)) s')
        (fun e s' => GoodWG r.claim (classAt s₀.heap) (ExcName.means s₀.heap) args s₁ (.error e) s') s₁
end Mine
open Mine
theorem Mine.PySem.W.holds_open {r : OpenRow} {q : Program} {loose : List Str} {Xt : Shared → Bool} {XP : (Str → Option Value) → Heap → Prop} {α : Type} {Yf : Shared → α} {Ya : World → α} {YP : World → Heap → Prop} {d : DefRec} {kwd : List (Str × Expr)} {N : Nat}
    (left : LeftO r.prog q loose Xt Yf Ya N) (hY : ∀ w s, Yf s = Ya w → YP w s.heap) (hYk : ∀ w h h', YP w h → (∀ b o, h.get? b = some o → h'.get? b = some o) → YP w h')
    (hX : ∀ s, Xt s = true → XP (s.heap.nsMap mainGlobals) s.heap) (hXk : ∀ mg h h', XP mg h → (∀ b o, h.get? b = some o → h'.get? b = some o) → XP mg h')
    (hdef : defOf q r.name = some (d, kwd)) (hp : r.prog.theDef r.name = some (d.params, d.body, d.scope)) (hk : kwWritten? d.params.kwonlyargs d.params.kw_defaults = some kwd) (hRf : ∀ s, Xt s = true → RecFacts r.records s.heap) (hwr : (!r.writes || r.records.isEmpty) = true)
    (k1 : r.wellSaid = true) (ok : (chainsOk q && opensWell r.prog && (frees r.toRowW && r.within.isEmpty)) = true) (hb : r.prog.bare) (hw : r.toRowW.promised)
    (call : WalkOC q loose XP YP r.toRowW d kwd) : r.Holds := by
  refine ⟨k1, hw, ?_⟩
  obtain ⟨ok, k5⟩ := Bool.and_eq_true_iff.mp ok
  obtain ⟨hch, o1⟩ := Bool.and_eq_true_iff.mp ok
  obtain ⟨k5, k6⟩ := Bool.and_eq_true_iff.mp k5
  obtain ⟨hsame, hu, ha, hap, hm⟩ := frees_parts k5
  refine ⟨⟨hb, o1, by show r.makers.map _ = []; rw [hm]; rfl⟩, hw.witness, fun w => ⟨(left.behind hX hch w).1, fun s' hs' => ?_⟩⟩
  obtain ⟨s₀, hf, hg0, s, hT, hz, hgens, hg, G00, y⟩ := (left.behind (XP := fun mg h => XP mg h ∧ RecFacts r.records h) (fun s hs => ⟨hX s hs, hRf s hs⟩) hch w).2 s' hs'
  have G0 : Ground q loose [] XP w s (s.heap.nsMap mainGlobals) (s.heap.nsMap builtinsNs) s.heap := ⟨G00.T, G00.B, G00.D, G00.TE, G00.TD, G00.W, G00.X.1, G00.cls, G00.has, G00.apart, G00.once, G00.K⟩
  have RF := G00.X.2
  refine ⟨s₀, hf, hg0, s, hT, fun n hn => ?_, RF.1, RF.2.1, ?_⟩
  · obtain rfl : n = r.name := by split at hn <;> simp_all
    exact pinned_of_view hg G0 hdef hp hk
  have hgens : s.gens = #[] := Array.eq_empty_of_size_eq_zero (beq_iff_eq.mp hgens)
  have G : Ground q loose r.records XP w s _ _ s.heap := RF.ground G0
  refine callFrom_C (c := r.toRowW.claim) hz hgens fun args hpre hlay ord hord => ?_
  obtain ⟨⟨vs, s₁⟩, hlaid⟩ := Option.isSome_iff_exists.mp (layAllW_isSome (P := w.params) (ord := ord) G.has args r.args s (pre_splitW hpre).1)
  have keeps := layAllW_keeps _ _ _ hlaid
  have rest := layAllW_rest _ _ _ hlaid
  obtain ⟨as, hrd, hin, hold⟩ := reads_layAllW hord _ _ _ hlaid hlay s₁.heap (fun _ _ e => e)
  have L : Laid r.records w s s₁ args vs as := ⟨⟨ord, hord, hlaid⟩, hrd, hin, hold, keeps, rest.1.trans hgens, rest.2.2.1⟩
  have G₁ := G.keeps hXk keeps
  obtain ⟨a, o, pm, cd, doc, dV, kV, h1, h2, h3, h4, h5⟩ := G₁.fn hdef
  have hcall := call w s s₁ _ _ G₁ (hYk _ _ _ (hY w s y) keeps) a o pm cd doc dV kV h2 h3 h4 h5 (defOf_name hdef ▸ h1) L.gens args vs as hpre hlay L.reads L.well (L.low G.low)
  have hi := ident_freeW hu ha hap
  have hwi : r.toRowW.claim.within = [] := List.isEmpty_iff.mp k6
  refine ⟨vs, s₁, hlaid, ?_⟩
  refine wpC_bindA (wpAny_nsGet G₁.T.g ?_)
  rw [h1]
  refine wpC_bind (wpC_mono hcall (fun v s' g => wpC_pure ?_) fun e s' g => ?_)
  · have z := g.laid (c := r.toRowW.claim) hsame hwi hi L
    exact ⟨_, rfl, z.1, z.2.1, z.2.2, fun q => ⟨namesKept_of hT hg _ keeps g.2.1.old, noTable hwr q⟩⟩
  · have z := g.laid (c := r.toRowW.claim) hsame hwi hi L
    exact ⟨z.1, z.2.1, z.2.2, fun q => ⟨namesKept_of hT hg _ keeps g.2.1.old, noTable hwr q⟩⟩
end
section
open PySem PySem.W PyProof.Rows PySem.Calls
set_option maxRecDepth 100000
namespace Mine
section
variable {prog : Program} {w : World} {A₀ A : Around} {s : Shared} {base h₀ : Heap} {outer : List Env} {L : Addr} {m : Str → Option Value} {news : List (Addr × Obj)} {K : Frag} {p : Program} {loose : List Str} {mean : ExcName → Option Value} {mg mb : Str → Option Value}
  {R : Result → Shared → Prop} {name qual : Str} {params : Arguments} {body : List Stmt} {scope : Scope} {dV kV doc pm cdv ct oc : Value} {an od : Option Addr} {osl : Array (Option Value)} {f : Addr} {args : Args} {binds : List (Str × Value)}
/-- a def is entered where the caller stands below -/
theorem codeC_def {env : Env} (B : Below A₀ base outer h₀) (F : Fr h₀ L s.heap m) (X₀ : K.In h₀) (N : News h₀ L s.heap news) (T : Top p loose mean mg mb h₀) (hA : A.frames = some (env :: outer)) (hf : env.frame = some L) (hke : env.scope.kind = .function)
    (ho : K.lookup f = some ⟨oc, od, .func (fnOf name qual params body scope dV kV doc pm an cdv ct), osl⟩) (hcd : codeIn K cdv qual = true) (hroom : A.depth < recursionLimit)
    (hbind : BindsTo s (fnOf name qual params body scope dV kV doc pm an cdv ct) args binds) (hloc : ∀ y ∈ binds, scope.names.lookup y.1 = some .local)
    (h : ∀ g L' h₁, Fr h₀ L g m → Fr g L' h₁ (fun y => binds.reverse.lookup y) → News g L' h₁ news → Below A base (env :: outer) g → K.In g → Top p loose mean mg mb g →
      wpC (model prog w) (A.deeper (envOf qual scope L' f cdv)) (execs body (envOf qual scope L' f cdv))
        (fun fl s' => LeaveK h₀ L m g R (match fl with | .ret v => v | _ => .none) s')
        (fun e s' => wpAny (model prog w) (A.deeper (envOf qual scope L' f cdv)) (leaving (envOf qual scope L' f cdv) e) (fun _ s'' => R (.error e) s'') (fun e' s'' => R (.error e') s'') s')
        { s with heap := h₁, toks := s.toks + binds.length })
    (hco : scope.isCoroutine = false) (hgen : scope.isGenerator = false) (hk : scope.kind = .function) (hcell : ∀ x ∈ scope.names, x.2 ≠ .cell) : codeC (model prog w) A (.call (.ref f) args) R s := by
  have X := X₀.keeps F.keep
  obtain ⟨FG, BG, st, lv⟩ := groundX (R := R) B F N hA hf hke
  refine codeC_call_def (fd := fnOf name qual params body scope dV kV doc pm an cdv ct) (body := body) (binds := binds) hroom (X _ _ ho) rfl (T.nolimit.keeps F.keep) (codeRec_of X hcd) rfl hbind hcell hloc (fun h₁ hns hk₁ => ?_) hco hgen hk
  refine wpC_mono (h _ s.heap.objs.size h₁ FG ⟨hns, fun b o e => hk₁ b o (of_hideAll _ e), Nat.le_of_eq (hideAll_size _ _)⟩ (fun q hq => ?_) BG (X₀.keeps st) (T.keeps st)) (fun fl s' hl => lv _ _ hl) fun _ _ y => y
  exact ⟨hk₁ _ _ (N q hq).1, Nat.ne_of_lt (Heap.lt_size (N q hq).1), hideAll_none _ (List.mem_map_of_mem hq)⟩
/-- a def that catches, entered from the law's own frame -/
theorem codeC_defS0 {cn : Str} {cs : Scope} {a : Addr} {ccd : Value} (B : Below A₀ base [] h₀) (F : Fr h₀ L s.heap m) (X₀ : K.In h₀) (N : News h₀ L s.heap news) (T : Top p loose mean mg mb h₀) (hA : A.frames = some [envOf cn cs L a ccd])
    (ho : K.lookup f = some ⟨oc, od, .func (fnOf name qual params body scope dV kV doc pm an cdv ct), osl⟩) (hcd : codeIn K cdv qual = true) (hroom : A.depth < recursionLimit)
    (hbind : BindsTo s (fnOf name qual params body scope dV kV doc pm an cdv ct) args binds) (hloc : ∀ y ∈ binds, scope.names.lookup y.1 = some .local)
    (h : ∀ g L' h₁, Fr h₀ L g m → Fr g L' h₁ (fun y => binds.reverse.lookup y) → News g L' h₁ news → Below A base [envOf cn cs L a ccd] g → K.In g → Top p loose mean mg mb g → KtsDicts ([envOf cn cs L a ccd].filterMap (·.frame)) g →
      wpC (model prog w) (A.deeper (envOf qual scope L' f cdv)) (execs body (envOf qual scope L' f cdv))
        (fun fl s' => LeaveS0 ([envOf cn cs L a ccd].filterMap (·.frame)) h₀ L m g R (match fl with | .ret v => v | _ => .none) s')
        (fun e s' => wpAny (model prog w) (A.deeper (envOf qual scope L' f cdv)) (leaving (envOf qual scope L' f cdv) e) (fun _ s'' => R (.error e) s'') (fun e' s'' => R (.error e') s'') s')
        { s with heap := h₁, toks := s.toks + binds.length })
    (hck : cs.kind = .function) (hco : scope.isCoroutine = false) (hgen : scope.isGenerator = false) (hk : scope.kind = .function) (hcell : ∀ x ∈ scope.names, x.2 ≠ .cell) : codeC (model prog w) A (.call (.ref f) args) R s := by
  have X := X₀.keeps F.keep
  refine codeC_call_def (fd := fnOf name qual params body scope dV kV doc pm an cdv ct) (body := body) (binds := binds) hroom (X _ _ ho) rfl (T.nolimit.keeps F.keep) (codeRec_of X hcd) rfl hbind hcell hloc (fun h₁ hns hk₁ => ?_) hco hgen hk
  obtain ⟨oL, es, ep, hLg, hLd, hN, hNs, st, B₂⟩ := kts_enter B F N hA hck
  refine wpC_mono (h _ s.heap.objs.size h₁ ⟨hN _ hLg, st, F.above⟩ ⟨hns, fun b o e => hk₁ b o (of_hideAll _ e), Nat.le_of_eq (hideAll_size _ _)⟩
    (fun q hq => ⟨hk₁ _ _ (N q hq).1, Nat.ne_of_lt (Heap.lt_size (N q hq).1), hideAll_none _ (List.mem_map_of_mem hq)⟩) B₂ (X₀.keeps st) (T.keeps st) (fun b hb => ?_)) (fun fl s' hl => ?_) fun _ _ y => y
  · rcases kts_mem hb with rfl | z
    · exact ⟨oL, es, ep, hLg, hLd⟩
    · simp at z
  obtain ⟨g', L', m', news', T', F', N', k⟩ := hl
  have nL₀ : h₀.get? L = none := kts_self F
  obtain ⟨sl, hs⟩ := T'.up hLg
  have F2 : Fr h₀ L s'.heap m := by
    refine ⟨hNs sl _ (F'.keep _ _ hs), fun b o e => F'.keep b o (T'.other b o (st b o e) fun q => ?_), F.above⟩
    rcases kts_mem q with z | z
    · rw [z, nL₀] at e
      cases e
    · simp at z
  refine k F2 fun q hq => ⟨(N' q hq).1, fun e => ?_, ?_⟩
  · have := (N' q hq).2.2
    rw [e, hs] at this
    cases this
  · cases e : h₀.get? q.1 with
    | none => rfl
    | some o =>
      obtain ⟨sl', hs'⟩ := T'.up (st _ _ e)
      have := (N' q hq).2.2
      rw [hs'] at this
      cases this
end
end Mine
end
section
open PySem PySem.W PyProof.Rows PySem.Calls
set_option maxRecDepth 100000
namespace Mine
section
variable {prog : Program} {w : World} {A : Around} {E : Value → Shared → Prop} {s : Shared} {env : Env} {h₀ : Heap} {x : Str} {body : List Stmt} {Q : Flow → Shared → Prop}

/-- the end of a turn: the ledger holds the iterator, and what the word speaks of -/
def JEnd (h₀ : Heap) (L : Addr) (J : (Str → Option Value) → List (Addr × Obj) → Prop) (I : Addr) (oI : Obj) (s₁ s₂ : Shared) : Prop :=
  ∃ h' tk m' news' nx, s₂ = { s₁ with heap := h', toks := tk } ∧ Fr h₀ L h' m' ∧ News h₀ L h' news' ∧ (I, oI) ∈ news' ∧ (∀ p ∈ nx, p ∈ news') ∧ (∀ p ∈ nx, p.1 ≠ I) ∧ J m' nx
def JPost (h₀ : Heap) (L : Addr) (J : (Str → Option Value) → List (Addr × Obj) → Prop) (I : Addr) (oI : Obj) (s₁ : Shared) (Q : Flow → Shared → Prop) (f : Flow) (s₂ : Shared) : Prop :=
  match f with
  | .ret v => Q (.ret v) s₂
  | .brk => Q .next s₂
  | _ => JEnd h₀ L J I oI s₁ s₂
theorem JEnd.intro {L : Addr} {J : (Str → Option Value) → List (Addr × Obj) → Prop} {m' : Str → Option Value} {I : Addr} {oI : Obj} {news' : List (Addr × Obj)} (nx : List (Addr × Obj)) {s₁ : Shared} {h' : Heap} {tk : Nat} (F : Fr h₀ L h' m') (N : News h₀ L h' news')
    (hI : (I, oI) ∈ news') (hn : ∀ p ∈ nx, p ∈ news') (ho : ∀ p ∈ nx, p.1 ≠ I) (hj : J m' nx) : JEnd h₀ L J I oI s₁ { s₁ with heap := h', toks := tk } :=
  ⟨h', tk, m', news', nx, rfl, F, N, hI, hn, ho, hj⟩

theorem j_loop {I : Addr} {fp : List Addr} {n : Nat} {P : Nat → Value → Prop} {St : Nat → Heap → Prop} {m₀ : Str → Option Value} {news : List (Addr × Obj)}
    (J : Nat → (Str → Option Value) → List (Addr × Obj) → Prop) (dep : List (Addr × Obj))
    (W : Walks prog w A I fp [I] n P St) (hI : h₀.get? I = none) (hIf : I ∈ fp) (hIo : ∀ i h, St i h → ∃ o, h.get? I = some o) (hLf : env.locals ∉ fp) (hnI : ∀ p ∈ news, p.1 ≠ I) (hst : St 0 s.heap)
    (F : Fr h₀ env.locals s.heap m₀) (N : News h₀ env.locals s.heap news) (hj : J 0 m₀ news)
    (hdep : ∀ i m nw, J i m nw → ∀ p ∈ dep, p ∈ nw) (hfp : ∀ b ∈ fp, b = I ∨ (∃ o, h₀.get? b = some o) ∨ ∃ o, (b, o) ∈ dep)
    (turn : ∀ i v m₁ nw h tk oI, i < n → P i v → J i m₁ nw → (∀ p ∈ nw, p.1 ≠ I) → Fr h₀ env.locals h (fun y => if y = x then some v else m₁ y) → News h₀ env.locals h ((I, oI) :: nw) →
      wpAny (model prog w) A (execs body env) (JPost h₀ env.locals (J (i + 1)) I oI { s with heap := h, toks := tk } Q) E { s with heap := h, toks := tk })
    (done : ∀ m' nw h tk, J n m' nw → Fr h₀ env.locals h m' → News h₀ env.locals h nw → Q .next { s with heap := h, toks := tk }) :
    LoopAtV prog w A h₀ env x body Q E (.ref I) s := by
  refine ⟨I, fp, [I], n, P, St, m₀, news, J, rfl, W, hLf, (fun b hb => by rw [List.mem_singleton.mp hb]; exact hI), (fun p hp hq => hnI p hp (List.mem_singleton.mp hq)), hst, F, N, hj, ?_, ?_⟩
  · rintro i v m₁ nw s₁ own ⟨hh', tk', rfl⟩ hin hP hJ hoff hown hget hall hst₁ F₁ N₁
    obtain ⟨oI, hoI⟩ := hIo _ _ hst₁
    have hIown : (I, oI) ∈ own := hall I hIf hI _ hoI
    have hoff' : ∀ p ∈ nw, p.1 ≠ I := fun p hp e => hoff p hp (List.mem_singleton.mpr e)
    have N₂ : News h₀ env.locals hh' ((I, oI) :: nw) := fun p hp => by
      rcases List.mem_cons.mp hp with rfl | hp
      · exact N₁ _ (List.mem_append_left _ hIown)
      · exact N₁ _ (List.mem_append_right _ hp)
    refine wpAny_mono (turn i v m₁ nw hh' tk' oI hin hP hJ hoff' F₁ N₂) (fun f s₂ p => ?_) fun _ _ e => e
    have fin : JEnd h₀ env.locals (J (i + 1)) I oI { s with heap := hh', toks := tk' } s₂ → LoopStepU h₀ env.locals [I] own (J (i + 1)) { s with heap := hh', toks := tk' } .next s₂ := by
      rintro ⟨h', tk, m', news', nx, e, F', N', hi, hn, ho, hm⟩
      refine ⟨rfl, h', tk, m', nx, e, F', fun p hp => ?_, fun p hp hq => ho p hp (List.mem_singleton.mp hq), hm⟩
      rcases List.mem_append.mp hp with hp | hp
      · have h2 : hh'.get? p.1 = some p.2 := hget p hp
        rcases hfp p.1 (hown p hp) with h1 | ⟨o, h1⟩ | ⟨o, h1⟩
        · have h3 : p = (I, oI) := by
            rw [h1] at h2
            exact Prod.ext h1 (Option.some.inj (h2.symm.trans hoI))
          rw [h3]; exact N' _ hi
        · have := (N₁ p (List.mem_append_left _ hp)).2.2
          rw [h1] at this; cases this
        · have h4 := hdep _ _ _ hJ _ h1
          have h5 := (N₂ _ (List.mem_cons_of_mem _ h4)).1
          have h3 : p = (p.1, o) := Prod.ext rfl (Option.some.inj (h2.symm.trans h5))
          rw [h3]
          exact N' _ (hn _ (hdep _ _ _ hm _ h1))
      · exact N' _ (hn p hp)
    cases f with
    | ret v => exact .ret p
    | brk => exact .brk p
    | next => exact .next (fin p)
    | cont => exact .cont (fin p)
  · rintro h' tk m' news' F' N' _ hJ
    exact done m' news' h' tk hJ F' N'

theorem j_range {r : Addr} {a₀ b₀ c : Int} {t₀ u₀ v₀ : Tok} {m₀ : Str → Option Value} {news : List (Addr × Obj)} (n : Nat)
    (J : Nat → (Str → Option Value) → List (Addr × Obj) → Prop)
    (hh : A.handled = none) (hr : IsRange s.heap r a₀ b₀ c t₀ u₀ v₀) (hsmall : Builtin.Range.small a₀ b₀ c = true) (hn : Builtin.Range.rangeSize a₀ b₀ c = (n : Int))
    (F : Fr h₀ env.locals s.heap m₀) (N : News h₀ env.locals s.heap news) (hj : J 0 m₀ news)
    (turn : ∀ i t m₁ nw h tk I oI, i < n → J i m₁ nw → (∀ p ∈ nw, p.1 ≠ I) → Fr h₀ env.locals h (fun y => if y = x then some (.int (a₀ + (i : Int) * c) t) else m₁ y) → News h₀ env.locals h ((I, oI) :: nw) →
      wpAny (model prog w) A (execs body env) (JPost h₀ env.locals (J (i + 1)) I oI { s with heap := h, toks := tk } Q) E { s with heap := h, toks := tk })
    (done : ∀ m' nw h tk, J n m' nw → Fr h₀ env.locals h m' → News h₀ env.locals h nw → Q .next { s with heap := h, toks := tk }) :
    wpAny (model prog w) A (pyIter (.ref r)) (fun it s₂ => LoopAtV prog w A h₀ env x body Q E it s₂) E s := by
  refine wpAny_pyIter_range hr hsmall ?_
  have hnew := next_is_new F
  refine j_loop J [] (Walks.range hh _ a₀ c n) hnew (List.mem_singleton.mpr rfl) (fun i h st => ⟨_, st⟩) ?_ ?_ (by show IsRangeIter _ _ _ _ _; rw [hn]; simpa using Heap.get?_push_size _ rfl) (F.push _) (fun p hp => ⟨Heap.get?_push_of_some _ (N p hp).1, (N p hp).2⟩) hj
    (fun _ _ _ _ p hp => nomatch hp) (fun b hb => .inl (List.mem_singleton.mp hb)) ?_ done
  · intro hm
    exact absurd F.ns.lt ((List.mem_singleton.mp hm) ▸ Nat.lt_irrefl _)
  · intro p hp hI
    exact absurd (Heap.lt_size (N p hp).1) (hI ▸ Nat.lt_irrefl _)
  · rintro i v m₁ nw h tk oI hin ⟨t, rfl⟩ hJ hoff F₁ N₁
    exact turn i t m₁ nw h tk _ oI hin hJ hoff F₁ N₁

theorem j_list {l : Addr} {items : Array Value} {c : Nat} {m₀ : Str → Option Value} {news : List (Addr × Obj)}
    (J : Nat → (Str → Option Value) → List (Addr × Obj) → Prop)
    (hh : A.handled = none) (hl : ∀ i m nw, J i m nw → (l, listOf items c) ∈ nw)
    (F : Fr h₀ env.locals s.heap m₀) (N : News h₀ env.locals s.heap news) (hj : J 0 m₀ news)
    (turn : ∀ i v m₁ nw h tk I oI, i < items.size → items[i]? = some v → J i m₁ nw → (∀ p ∈ nw, p.1 ≠ I) → Fr h₀ env.locals h (fun y => if y = x then some v else m₁ y) → News h₀ env.locals h ((I, oI) :: nw) →
      wpAny (model prog w) A (execs body env) (JPost h₀ env.locals (J (i + 1)) I oI { s with heap := h, toks := tk } Q) E { s with heap := h, toks := tk })
    (done : ∀ m' nw h tk, J items.size m' nw → Fr h₀ env.locals h m' → News h₀ env.locals h nw → Q .next { s with heap := h, toks := tk }) :
    wpAny (model prog w) A (pyIter (.ref l)) (fun it s₂ => LoopAtV prog w A h₀ env x body Q E it s₂) E s := by
  have hm := hl _ _ _ hj
  have hls : s.heap.IsList l items := ⟨_, (N _ hm).1, rfl, c, rfl⟩
  have hlt : l < s.heap.objs.size := Heap.lt_size (N _ hm).1
  refine wpAny_pyIter_list hls ?_
  have hnew := next_is_new F
  refine j_loop J [(l, listOf items c)] (Walks.list hh _ l (Nat.ne_of_lt hlt) items) hnew (by simp) (fun i h st => let ⟨⟨o, ho, _⟩, _⟩ := st; ⟨o, ho⟩) ?_ ?_ ⟨⟨_, Heap.get?_push_size _ rfl, rfl, rfl⟩, hls.at fun o e => Heap.get?_push_of_some _ e⟩ (F.push _) (fun p hp => ⟨Heap.get?_push_of_some _ (N p hp).1, (N p hp).2⟩) hj
    (fun _ _ _ q p hp => by rw [List.mem_singleton.mp hp]; exact hl _ _ _ q) (fun b hb => ?_) ?_ done
  · intro hm'
    rcases List.mem_cons.mp hm' with e | e
    · exact absurd F.ns.lt (e ▸ Nat.lt_irrefl _)
    · exact (N _ hm).2.1 (List.mem_singleton.mp e).symm
  · intro p hp hI
    exact absurd (Heap.lt_size (N p hp).1) (hI ▸ Nat.lt_irrefl _)
  · rcases List.mem_cons.mp hb with e | e
    · exact .inl e
    · exact .inr (.inr ⟨_, by rw [List.mem_singleton.mp e]; exact .head _⟩)
  · rintro i v m₁ nw h tk oI hin hP hJ hoff F₁ N₁
    exact turn i v m₁ nw h tk _ oI hin hP hJ hoff F₁ N₁
end
/-- names that may have been turned: their values are forgotten -/
theorem map_but (ys : List Str) {m m₀ : Str → Option Value} (h : ∀ z, z ∉ ys → m z = m₀ z) : m = fun z => if z ∈ ys then m z else m₀ z := by
  funext z; by_cases hz : z ∈ ys
  · simp only [if_pos hz]
  · simp only [if_neg hz]; exact h z hz
theorem map_at {y : Str} {v : Option Value} {m : Str → Option Value} (h : m y = v) : m = fun z => if z = y then v else m z := by
  funext z; by_cases hz : z = y
  · simp only [if_pos hz]; rw [hz]; exact h
  · simp only [if_neg hz]

theorem nm1 {h₀ h : Heap} {L a : Addr} {oa : Obj} {r : List (Addr × Obj)} (_ : News h₀ L h ((a, oa) :: r)) {P : Prop} (k : ∀ a', a' = a → P) : P := k a rfl
theorem nm2 {h₀ h : Heap} {L a b : Addr} {oa ob : Obj} {r : List (Addr × Obj)} (_ : News h₀ L h ((a, oa) :: (b, ob) :: r)) {P : Prop} (k : ∀ a' b', a' = a → b' = b → P) : P := k a b rfl rfl
theorem nm3 {h₀ h : Heap} {L a b c : Addr} {oa ob oc : Obj} {r : List (Addr × Obj)} (_ : News h₀ L h ((a, oa) :: (b, ob) :: (c, oc) :: r)) {P : Prop} (k : ∀ a' b' c', a' = a → b' = b → c' = c → P) : P := k a b c rfl rfl rfl
theorem nm1o {h₀ h : Heap} {L a : Addr} {oa : Obj} {r : List (Addr × Obj)} (_ : News h₀ L h ((a, oa) :: r)) {P : Prop} (k : ∀ a' o', a' = a → o' = oa → P) : P := k a oa rfl rfl
theorem nm4 {h₀ h : Heap} {L d : Addr} {a b c : Addr × Obj} {od : Obj} {r : List (Addr × Obj)} (_ : News h₀ L h (a :: b :: c :: (d, od) :: r)) {P : Prop} (k : ∀ d', d' = d → P) : P := k d rfl
theorem news_cons2 {h₀ h : Heap} {L : Addr} {a : Addr} {o : Obj} {nw : List (Addr × Obj)} (hx : h.get? a = some o ∧ a ≠ L ∧ h₀.get? a = none) (N : News h₀ L h nw) : News h₀ L h ((a, o) :: nw) := fun p hp => by
  rcases List.mem_cons.mp hp with rfl | hp
  · exact hx
  · exact N _ hp
theorem nmF {h₀ h : Heap} {L : Addr} {m : Str → Option Value} (_ : Fr h₀ L h m) {P : Prop} (k : ∀ m', m' = m → P) : P := k m rfl
theorem nmT {h₀ h : Heap} {L : Addr} {x : Addr × Obj} {r : List (Addr × Obj)} (_ : News h₀ L h (x :: r)) {P : Prop} (k : ∀ r', r' = r → P) : P := k r rfl
theorem nmN {h₀ h : Heap} {L : Addr} {r : List (Addr × Obj)} (_ : News h₀ L h r) {P : Prop} (k : ∀ r', r' = r → P) : P := k r rfl

def AllNe (I : Addr) : List (Addr × Obj) → Prop
  | [] => True
  | p :: r => @Ne Nat p.1 I ∧ AllNe I r
theorem allNe_of {I : Addr} : ∀ {l : List (Addr × Obj)}, (∀ p ∈ l, p.1 ≠ I) → AllNe I l
  | [], _ => trivial
  | p :: _, h => ⟨h p (.head _), allNe_of fun q hq => h q (.tail _ hq)⟩
theorem news_lt {h₀ h : Heap} {L : Addr} {news : List (Addr × Obj)} (N : News h₀ L h news) : AllLt h.objs.size news := allLt_of fun p hp => Heap.lt_size (N p hp).1

section
variable {prog : Program} {w : World} {A : Around} {E : Value → Shared → Prop} {s : Shared} {env : Env} {h₀ : Heap} {target : Expr} {body : List Stmt} {Q : Flow → Shared → Prop}
def JPostT (h₀ : Heap) (L : Addr) (J : (Str → Option Value) → List (Addr × Obj) → Prop) (I : Addr) (oI : Obj) (s₁ : Shared) (f : Flow) (s₂ : Shared) : Prop := f = .next ∧ JEnd h₀ L J I oI s₁ s₂
theorem j_loopT {I : Addr} {fp : List Addr} {n : Nat} {P : Nat → Value → Prop} {St : Nat → Heap → Prop} {m₀ : Str → Option Value} {news : List (Addr × Obj)}
    (J : Nat → (Str → Option Value) → List (Addr × Obj) → Prop) (dep : List (Addr × Obj))
    (W : Walks prog w A I fp [I] n P St) (hI : h₀.get? I = none) (hIf : I ∈ fp) (hIo : ∀ i h, St i h → ∃ o, h.get? I = some o) (hLf : env.locals ∉ fp) (hnI : ∀ p ∈ news, p.1 ≠ I) (hst : St 0 s.heap)
    (F : Fr h₀ env.locals s.heap m₀) (N : News h₀ env.locals s.heap news)
    (hgo : ∀ i (s' : Shared) v (Q' : Unit → Shared → Prop), St i s'.heap → Q' () s' → wpAny (model prog w) A (letOwnedTupleGo target (.ref I) v) Q' E s') (hj : J 0 m₀ news)
    (hdep : ∀ i m nw, J i m nw → ∀ p ∈ dep, p ∈ nw) (hfp : ∀ b ∈ fp, b = I ∨ (∃ o, h₀.get? b = some o) ∨ ∃ o, (b, o) ∈ dep)
    (turn : ∀ i v m₁ nw s₁ oI, i < n → P i v → J i m₁ nw → (∀ p ∈ nw, p.1 ≠ I) → Fr h₀ env.locals s₁.heap m₁ → News h₀ env.locals s₁.heap ((I, oI) :: nw) →
      wpAny (model prog w) A (assign target env v) (fun _ s₃ => wpAny (model prog w) A (execs body env) (JPostT h₀ env.locals (J (i + 1)) I oI s₁) E s₃) E s₁)
    (done : ∀ m' nw h tk, J n m' nw → Fr h₀ env.locals h m' → News h₀ env.locals h nw → Q .next { s with heap := h, toks := tk }) :
    LoopAtT prog w A h₀ env target body Q E (.ref I) s := by
  refine ⟨I, fp, [I], n, P, St, m₀, news, J, rfl, W, hLf, (fun b hb => by rw [List.mem_singleton.mp hb]; exact hI), (fun p hp hq => hnI p hp (List.mem_singleton.mp hq)), hst, F, N, hgo, hj, ?_, ?_⟩
  · rintro i v m₁ nw s₁ own hin hP hJ hoff hown hget hall hst₁ F₁ N₁
    obtain ⟨oI, hoI⟩ := hIo _ _ hst₁
    have hIown : (I, oI) ∈ own := hall I hIf hI _ hoI
    have hoff' : ∀ p ∈ nw, p.1 ≠ I := fun p hp e => hoff p hp (List.mem_singleton.mpr e)
    have N₂ : News h₀ env.locals s₁.heap ((I, oI) :: nw) := fun p hp => by
      rcases List.mem_cons.mp hp with rfl | hp
      · exact N₁ _ (List.mem_append_left _ hIown)
      · exact N₁ _ (List.mem_append_right _ hp)
    refine wpAny_mono (turn i v m₁ nw s₁ oI hin hP hJ hoff' F₁ N₂) (fun _ s₃ h₃ => wpAny_mono h₃ (fun f s₂ p => ?_) fun _ _ e => e) fun _ _ e => e
    obtain ⟨rfl, h', tk, m', news', nx, e, F', N', hi, hn, ho, hm⟩ := p
    refine ⟨rfl, h', tk, m', nx, e, F', fun p hp => ?_, fun p hp hq => ho p hp (List.mem_singleton.mp hq), hm⟩
    rcases List.mem_append.mp hp with hp | hp
    · have h2 : s₁.heap.get? p.1 = some p.2 := hget p hp
      rcases hfp p.1 (hown p hp) with h1 | ⟨o, h1⟩ | ⟨o, h1⟩
      · have h3 : p = (I, oI) := by
          rw [h1] at h2
          exact Prod.ext h1 (Option.some.inj (h2.symm.trans hoI))
        rw [h3]; exact N' _ hi
      · have := (N₁ p (List.mem_append_left _ hp)).2.2
        rw [h1] at this; cases this
      · have h4 := hdep _ _ _ hJ _ h1
        have h5 := (N₂ _ (List.mem_cons_of_mem _ h4)).1
        have h3 : p = (p.1, o) := Prod.ext rfl (Option.some.inj (h2.symm.trans h5))
        rw [h3]
        exact N' _ (hn _ (hdep _ _ _ hm _ h1))
    · exact N' _ (hn p hp)
  · rintro h' tk m' news' F' N' _ hJ
    exact done m' news' h' tk hJ F' N'

theorem j_listT {l : Addr} {items : Array Value} {c : Nat} {m₀ : Str → Option Value} {news : List (Addr × Obj)}
    (J : Nat → (Str → Option Value) → List (Addr × Obj) → Prop)
    (hh : A.handled = none) (hl : ∀ i m nw, J i m nw → (l, listOf items c) ∈ nw)
    (F : Fr h₀ env.locals s.heap m₀) (N : News h₀ env.locals s.heap news) (hj : J 0 m₀ news)
    (turn : ∀ i v m₁ nw s₁ I oI, i < items.size → items[i]? = some v → J i m₁ nw → (∀ p ∈ nw, p.1 ≠ I) → Fr h₀ env.locals s₁.heap m₁ → News h₀ env.locals s₁.heap ((I, oI) :: nw) →
      wpAny (model prog w) A (assign target env v) (fun _ s₃ => wpAny (model prog w) A (execs body env) (JPostT h₀ env.locals (J (i + 1)) I oI s₁) E s₃) E s₁)
    (done : ∀ m' nw h tk, J items.size m' nw → Fr h₀ env.locals h m' → News h₀ env.locals h nw → Q .next { s with heap := h, toks := tk }) :
    wpAny (model prog w) A (pyIter (.ref l)) (fun it s₂ => LoopAtT prog w A h₀ env target body Q E it s₂) E s := by
  have hm := hl _ _ _ hj
  have hls : s.heap.IsList l items := ⟨_, (N _ hm).1, rfl, c, rfl⟩
  have hlt : l < s.heap.objs.size := Heap.lt_size (N _ hm).1
  refine wpAny_pyIter_list hls ?_
  have hnew := next_is_new F
  refine j_loopT J [(l, listOf items c)] (Walks.list hh _ l (Nat.ne_of_lt hlt) items) hnew (by simp) (fun i h st => let ⟨⟨o, ho, _⟩, _⟩ := st; ⟨o, ho⟩) ?_ ?_ ⟨⟨_, Heap.get?_push_size _ rfl, rfl, rfl⟩, hls.at fun o e => Heap.get?_push_of_some _ e⟩ (F.push _) (fun p hp => ⟨Heap.get?_push_of_some _ (N p hp).1, (N p hp).2⟩) (fun i s' v Q' st hQ' => letGo_listiter st.1 hQ') hj
    (fun _ _ _ q p hp => by rw [List.mem_singleton.mp hp]; exact hl _ _ _ q) (fun b hb => ?_) ?_ done
  · intro hm'
    rcases List.mem_cons.mp hm' with e | e
    · exact absurd F.ns.lt (e ▸ Nat.lt_irrefl _)
    · exact (N _ hm).2.1 (List.mem_singleton.mp e).symm
  · intro p hp hI
    exact absurd (Heap.lt_size (N p hp).1) (hI ▸ Nat.lt_irrefl _)
  · rcases List.mem_cons.mp hb with e | e
    · exact .inl e
    · exact .inr (.inr ⟨_, by rw [List.mem_singleton.mp e]; exact .head _⟩)
  · rintro i v m₁ nw s₁ oI hin hP hJ hoff F₁ N₁
    exact turn i v m₁ nw s₁ _ oI hin hP hJ hoff F₁ N₁
end
theorem news_cons {h₀ h : Heap} {L : Addr} {x : Addr × Obj} {nw : List (Addr × Obj)} (N : News h₀ L h nw) (hx : x ∈ nw) : News h₀ L h (x :: nw) := fun p hp => by
  rcases List.mem_cons.mp hp with rfl | hp
  · exact N _ hx
  · exact N _ hp
theorem news_sub {h₀ h : Heap} {L : Addr} {nw nw' : List (Addr × Obj)} (N : News h₀ L h nw) (hs : ∀ p ∈ nw', p ∈ nw) : News h₀ L h nw' := fun p hp => N p (hs p hp)
end Mine
end
section
open PySem PySem.W PyProof.Rows PySem.Calls
set_option maxRecDepth 100000
namespace Mine
section
variable {prog : Program} {w : World} {A : Around} {E : Value → Shared → Prop} {s : Shared} {env : Env} {h₀ : Heap} {x : Str} {px : Pos} {body : List Stmt} {Q : Flow → Shared → Prop}
/-- a `for` over a range, its body at stacks that bear the caller -/
theorem rangeC {r : Addr} {a₀ b₀ c : Int} {t₀ u₀ v₀ : Tok} {m₀ : Str → Option Value} {news : List (Addr × Obj)} (n : Nat)
    (J : Nat → (Str → Option Value) → List (Addr × Obj) → Prop) (hx : env.kindOf x = some .local) (hp : (env.scope.kind == .class || (env.scope.kind == .module && env.locals != env.globals)) = false)
    (hh : A.handled = none) (hr : IsRange s.heap r a₀ b₀ c t₀ u₀ v₀) (hsmall : Builtin.Range.small a₀ b₀ c = true) (hn : Builtin.Range.rangeSize a₀ b₀ c = (n : Int))
    (F : Fr h₀ env.locals s.heap m₀) (N : News h₀ env.locals s.heap news) (hj : J 0 m₀ news) (hE : PassesOwn (model prog w) A env E)
    (turn : ∀ i t m₁ nw h tk I oI, i < n → J i m₁ nw → (∀ p ∈ nw, p.1 ≠ I) → Fr h₀ env.locals h (fun y => if y = x then some (.int (a₀ + (i : Int) * c) t) else m₁ y) → News h₀ env.locals h ((I, oI) :: nw) →
      wpC (model prog w) A (execs body env) (JPost h₀ env.locals (J (i + 1)) I oI { s with heap := h, toks := tk } Q) E { s with heap := h, toks := tk })
    (done : ∀ m' nw h tk, J n m' nw → Fr h₀ env.locals h m' → News h₀ env.locals h nw → Q .next { s with heap := h, toks := tk }) :
    wpAny (model prog w) A (pyIter (.ref r)) (fun it s₂ => codeC (model prog w) A (.forLoop (.Name x px) it body [] env) (fun r s' => match r with | .ok f => Q f s' | .error e => cameBackBy (model prog w) A env E e s') s₂) E s := by
  refine wpAny_pyIter_range hr hsmall ?_
  have hnew := next_is_new F
  generalize hI : s.heap.objs.size = I at hnew ⊢
  have hLI : env.locals ≠ I := fun e => absurd F.ns.lt (by rw [e, ← hI]; exact Nat.lt_irrefl _)
  have W := Walks.range (prog := prog) (w := w) (A := A) hh I a₀ c n
  refine codeC_forLoop (fun k s' => ∃ h' tk m' nw i, s' = { s with heap := h', toks := tk } ∧ IsRangeIter h' I (a₀ + (i : Nat) * c) ((n : Int) - (i : Nat)) c ∧ Fr h₀ env.locals h' m' ∧ News h₀ env.locals h' nw ∧ (∀ p ∈ nw, p.1 ≠ I) ∧ J i m' nw ∧ i ≤ n ∧ k = n + 1 - i) ?_ (n + 1)
    ⟨_, _, m₀, news, 0, rfl, ?_, F.push _, fun p hq => ⟨Heap.get?_push_of_some _ (N p hq).1, (N p hq).2⟩, fun p hq e => ?_, hj, Nat.zero_le _, rfl⟩
  · rintro k s' ⟨h', tk, m', nw, i, rfl, hst, F', N', hoff, hJ, hi, rfl⟩
    have keep : ∀ h₁ : Heap, (∀ b o, b ∉ [I] → h'.get? b = some o → h₁.get? b = some o) → Fr h₀ env.locals h₁ m' ∧ News h₀ env.locals h₁ nw := fun h₁ hk => by
      refine ⟨⟨F'.ns.at' fun o e => hk _ o (fun q => hLI (List.mem_singleton.mp q)) e, fun b o e => hk b o (fun q => ?_) (F'.keep b o e), F'.above⟩, fun p hq => ⟨hk _ _ (fun q => hoff p hq (List.mem_singleton.mp q)) (N' p hq).1, (N' p hq).2⟩⟩
      rw [List.mem_singleton.mp q, hnew] at e
      cases e
    by_cases hlt : i < n
    · refine W.item i _ _ _ hlt hst fun v h₁ tk₁ hP hst₁ hk₁ => ?_
      obtain ⟨t, rfl⟩ := hP
      obtain ⟨F₁, N₁⟩ := keep h₁ hk₁
      refine wpAny_assign_Name (wpAny_storeName_local hx F₁.ns (fun h₂ hn₂ hs₂ => ?_) hp)
      have F₂ := F₁.set hn₂ hs₂
      have N₂ := N₁.set hs₂
      have hst₂ : IsRangeIter h₂ I (a₀ + ((i + 1 : Nat) : Int) * c) ((n : Int) - ((i + 1 : Nat) : Int)) c := W.frame (i + 1) _ _ hst₁ fun b hb o e => (hs₂.2 b fun q => hLI (by rw [← q, List.mem_singleton.mp hb])).trans e
      obtain ⟨oI, hoI⟩ : ∃ oI, h₂.get? I = some oI := ⟨_, hst₂⟩
      have N₃ : News h₀ env.locals h₂ ((I, oI) :: nw) := fun p hq => by
        rcases List.mem_cons.mp hq with rfl | hq
        · exact ⟨hoI, fun e => hLI e.symm, hnew⟩
        · exact N₂ p hq
      refine wpC_mono (turn i t m' nw h₂ _ I oI hlt hJ hoff F₂ N₃) (fun f s₃ q => ?_) hE
      have fin : JEnd h₀ env.locals (J (i + 1)) I oI { s with heap := h₂, toks := tk₁ + 1 } s₃ → ∃ m, m < n + 1 - i ∧ ∃ h' tk m' nw i, s₃ = { s with heap := h', toks := tk } ∧ IsRangeIter h' I (a₀ + (i : Nat) * c) ((n : Int) - (i : Nat)) c ∧ Fr h₀ env.locals h' m' ∧ News h₀ env.locals h' nw ∧ (∀ p ∈ nw, p.1 ≠ I) ∧ J i m' nw ∧ i ≤ n ∧ m = n + 1 - i := by
        rintro ⟨h₄, tk₄, m₄, nw₄, nx, rfl, F₄, N₄, hI₄, hx₄, ho₄, hJ₄⟩
        refine ⟨n + 1 - (i + 1), by omega, h₄, tk₄, m₄, nx, i + 1, rfl, ?_, F₄, fun p hq => N₄ p (hx₄ p hq), ho₄, hJ₄, hlt, rfl⟩
        have e1 := (N₄ _ hI₄).1
        have e2 : oI = _ := Option.some.inj (hoI.symm.trans hst₂)
        exact e1.trans (congrArg some e2)
      cases f with
      | ret v => exact q
      | brk => exact q
      | next => exact fin q
      | cont => exact fin q
    · obtain rfl : i = n := by omega
      refine W.done _ _ _ hst fun h₁ tk₁ hk₁ => ?_
      obtain ⟨F₁, N₁⟩ := keep h₁ hk₁
      exact wpAny_execs_nil (done m' nw h₁ tk₁ hJ F₁ N₁)
  · show IsRangeIter _ _ _ _ _
    rw [hn, ← hI]
    simpa using Heap.get?_push_size _ rfl
  · have := Heap.lt_size (N p hq).1
    rw [e, ← hI] at this
    exact Nat.lt_irrefl _ this
end
end Mine
end
section
open PySem PySem.W PyProof.Rows PySem.Calls
set_option maxRecDepth 100000
namespace Mine
section
variable {M : Model} {A : Around} {E : Value → Shared → Prop} {s : Shared} {env : Env}
theorem wpC_Assign_Sub {o i : Expr} {pos' : Pos} {value : Expr} {pos : Pos} {Q : Flow → Shared → Prop}
    (h : wpC M A (eval value env) (fun v s₁ => wpAny M A (eval o env) (fun ov s₂ => wpAny M A (eval i env) (fun iv s₃ => wpAny M A (setItem ov iv v) (fun _ => Q .next) E s₃) E s₂) E s₁) E s)
    (hs : swapsWith value (some (.Subscript o i pos')) pos.line env = pure false := by rfl) : wpC M A (exec (.Assign [.Subscript o i pos'] value pos) env) Q E s := fun Γ p hΓ hC => by
  simp only [exec_Assign_Subscript o i pos' value pos hs, assign_Subscript, Sem.wp_bind', Sem.wp_holding, Sem.wp_cmd_standAt, Sem.wp_release, Sem.wp_pure']
  refine Sem.wp_mono M Γ _ (fun v p₁ s₁ h₁ => ?_) (fun _ _ _ h' => h') _ _ (h Γ _ hΓ hC)
  exact Sem.wp_mono M Γ _ (fun ov p₂ s₂ h₂ => Sem.wp_mono M Γ _ (fun iv _ s₃ h₃ => h₃ Γ _ hΓ) (fun _ _ _ h' => h') _ _ (h₂ Γ p₂ hΓ)) (fun _ _ _ h' => h') _ _ (h₁ Γ p₁ hΓ)
theorem wpC_If {test : Expr} {body orelse : List Stmt} {pos : Pos} {Q : Flow → Shared → Prop}
    (h : wpAny M A (isTrue test env (eval test env)) (fun b s₂ => if b then wpC M A (execs body env) Q E s₂ else wpC M A (execs orelse env) Q E s₂) E s) : wpC M A (exec (.If test body orelse pos) env) Q E s := fun Γ p hΓ hC => by
  simp only [exec_If, Sem.wp_bind', Sem.wp_cmd_standAt]
  refine Sem.wp_mono M Γ _ (fun b p₂ s₂ h₂ => ?_) (fun _ _ _ h' => h') _ _ (h Γ _ hΓ)
  cases b <;> exact h₂ Γ p₂ hΓ hC
theorem wpC_execs_nil {Q : Flow → Shared → Prop} (h : Q .next s) : wpC M A (execs [] env) Q E s := wpC_any (wpAny_execs_nil h)
theorem wpC_Call_Name {x : Str} {p pos : Pos} {args : List Expr} {Q : Value → Shared → Prop}
    (h : wpAny M A (eval (.Name x p) env) (fun f s₁ => wpC M A (callWith pos f [] (backTo pos (starEach args env)) []) Q E s₁) E s) : wpC M A (eval (.Call (.Name x p) args [] pos) env) Q E s := by
  show wpC M A (do callWith pos (← eval (.Name x p) env) [] (backTo pos (starEach args env)) (backToKw pos (keywordEach [] env))) Q E s
  exact wpC_bindA h
theorem wpC_callWith_type {pos : Pos} {T : String} {e : Expr} {Q : Value → Shared → Prop}
    (h : wpAny M A (spliced (backTo pos (starEach [e] env))) (fun vs s₁ => wpC M A (call (.type T) vs) Q E s₁) E s) (he : starEach [e] env = (false, eval e env) :: starEach [] env := by rfl) :
    wpC M A (callWith pos (.type T) [] (backTo pos (starEach [e] env)) []) Q E s := by
  rw [he] at h ⊢
  unfold callWith
  refine wpC_bindA (wpAny_holding (wpAny_mono (evalArgs_plain (f := .type T) (Q := fun a s₁ => wpC M A (call (.type T) a.pos a.kw) Q E s₁) h) (fun a s₁ h₁ => wpC_standAt ?_) fun _ _ x => x))
  refine wpC_bindA (wpAny_pure ?_)
  exact wpC_bind (wpC_mono h₁ (fun r s₂ hr => wpC_bindA (wpAny_holding (wpAny_point (wpC_pure hr)))) fun _ _ x => x)
end
end Mine
end
section
open PySem PySem.W PyProof.Rows PySem.Calls
set_option maxRecDepth 100000
namespace Mine
def BEnd (h₀ : Heap) (L : Addr) (Bk : (Str → Option Value) → List (Addr × Obj) → Prop) (s₁ s₂ : Shared) : Prop :=
  ∃ h' tk m' nw, s₂ = { s₁ with heap := h', toks := tk } ∧ Fr h₀ L h' m' ∧ News h₀ L h' nw ∧ Bk m' nw
def JPostB (h₀ : Heap) (L : Addr) (J Bk : (Str → Option Value) → List (Addr × Obj) → Prop) (I : Addr) (oI : Obj) (s₁ : Shared) (Q : Flow → Shared → Prop) (f : Flow) (s₂ : Shared) : Prop :=
  match f with
  | .ret v => Q (.ret v) s₂
  | .brk => BEnd h₀ L Bk s₁ s₂
  | _ => JEnd h₀ L J I oI s₁ s₂
section
variable {prog : Program} {w : World} {A : Around} {E : Value → Shared → Prop} {s : Shared} {env : Env} {h₀ : Heap} {x : Str} {px : Pos} {body : List Stmt} {Q : Flow → Shared → Prop}
theorem rangeCB {r : Addr} {a₀ b₀ c : Int} {t₀ u₀ v₀ : Tok} {m₀ : Str → Option Value} {news : List (Addr × Obj)} (n : Nat)
    (J : Nat → (Str → Option Value) → List (Addr × Obj) → Prop) (Bk : (Str → Option Value) → List (Addr × Obj) → Prop) (hx : env.kindOf x = some .local) (hp : (env.scope.kind == .class || (env.scope.kind == .module && env.locals != env.globals)) = false)
    (hh : A.handled = none) (hr : IsRange s.heap r a₀ b₀ c t₀ u₀ v₀) (hsmall : Builtin.Range.small a₀ b₀ c = true) (hn : Builtin.Range.rangeSize a₀ b₀ c = (n : Int))
    (F : Fr h₀ env.locals s.heap m₀) (N : News h₀ env.locals s.heap news) (hj : J 0 m₀ news) (hE : PassesOwn (model prog w) A env E)
    (turn : ∀ i t m₁ nw h tk I oI, i < n → J i m₁ nw → (∀ p ∈ nw, p.1 ≠ I) → Fr h₀ env.locals h (fun y => if y = x then some (.int (a₀ + (i : Int) * c) t) else m₁ y) → News h₀ env.locals h ((I, oI) :: nw) →
      wpC (model prog w) A (execs body env) (JPostB h₀ env.locals (J (i + 1)) Bk I oI { s with heap := h, toks := tk } Q) E { s with heap := h, toks := tk })
    (hJ : ∀ m nw, J n m nw → Bk m nw) (after : ∀ m' nw h tk, Bk m' nw → Fr h₀ env.locals h m' → News h₀ env.locals h nw → Q .next { s with heap := h, toks := tk }) :
    wpAny (model prog w) A (pyIter (.ref r)) (fun it s₂ => codeC (model prog w) A (.forLoop (.Name x px) it body [] env) (fun r s' => match r with | .ok f => Q f s' | .error e => cameBackBy (model prog w) A env E e s') s₂) E s := by
  refine rangeC n J hx hp hh hr hsmall hn F N hj hE (fun i t m₁ nw h tk I oI hi hJi hoff F1 N1 => wpC_mono (turn i t m₁ nw h tk I oI hi hJi hoff F1 N1) (fun f s₂ q => ?_) fun _ _ e => e) fun m' nw h tk hJn F1 N1 => after m' nw h tk (hJ _ _ hJn) F1 N1
  cases f with
  | ret v => exact q
  | next => exact q
  | cont => exact q
  | brk =>
    obtain ⟨h', tk', m', nw', rfl, F2, N2, hb⟩ := q
    exact after m' nw' h' tk' hb F2 N2
end
/-- a map with known entries -/
theorem known4 {a b c d : Str} {v1 v2 v3 v4 : Option Value} {m : Str → Option Value} (h1 : m a = v1) (h2 : m b = v2) (h3 : m c = v3) (h4 : m d = v4) : m = fun z => if z = a then v1 else if z = b then v2 else if z = c then v3 else if z = d then v4 else m z := by
  funext z
  by_cases e1 : z = a
  · rw [if_pos e1, e1, h1]
  · by_cases e2 : z = b
    · rw [if_neg e1, if_pos e2, e2, h2]
    · by_cases e3 : z = c
      · rw [if_neg e1, if_neg e2, if_pos e3, e3, h3]
      · by_cases e4 : z = d
        · rw [if_neg e1, if_neg e2, if_neg e3, if_pos e4, e4, h4]
        · rw [if_neg e1, if_neg e2, if_neg e3, if_neg e4]
theorem known5 {a b c d e : Str} {v1 v2 v3 v4 v5 : Option Value} {m : Str → Option Value} (h1 : m a = v1) (h2 : m b = v2) (h3 : m c = v3) (h4 : m d = v4) (h5 : m e = v5) : m = fun z => if z = a then v1 else if z = b then v2 else if z = c then v3 else if z = d then v4 else if z = e then v5 else m z := by
  have e1 := known4 h2 h3 h4 h5
  funext z
  by_cases e0 : z = a
  · rw [if_pos e0, e0, h1]
  · rw [if_neg e0]
    exact congrFun e1 z
end Mine
end
section
open PySem PySem.W PyProof.Rows PySem.Calls
set_option maxRecDepth 100000
namespace Mine
section
variable {M : Model} {A : Around} {E : Value → Shared → Prop} {s : Shared} {env : Env}
theorem wpC_attempt {α : Type} {m : Sem α} {Q : Except Value α → Shared → Prop} (h : wpC M A m (fun a => Q (.ok a)) (fun e => Q (.error e)) s) :
    wpC M A m.attempt Q E s := fun Γ p hΓ hC => by rw [Sem.wp_attempt]; exact h Γ p hΓ hC
theorem wpC_tryStmt_except {body orelse : Sem Flow} {h₀ : ExceptHandler} {hs : List ExceptHandler} {Q : Flow → Shared → Prop}
    (h : wpC M A body (fun f s₁ => match f with | .next => wpAny M A orelse Q E s₁ | f => Q f s₁)
      (fun e s₁ => wpAny M A (noteFrame e env) (fun _ s₂ => wpAny M A (setFlight e none) (fun _ s₃ => wpAny M A (handleBy e env (h₀ :: hs)) Q E s₃) E s₂) E s₁) s) :
    wpC M A (tryStmt false body (h₀ :: hs) orelse [] env) Q E s := by
  unfold tryStmt
  simp only [List.isEmpty_nil, if_true, List.isEmpty_cons, Bool.false_and, Bool.false_eq_true, if_false]
  refine wpC_bind (wpC_attempt (wpC_mono h (fun f s₁ h₁ => ?_) fun e s₁ h₁ => ?_))
  · cases f <;> first | exact wpC_any h₁ | exact wpC_pure h₁
  · exact wpC_any (wpAny_bind (wpAny_mono h₁ (fun _ _ h₂ => wpAny_bind h₂) fun _ _ x => x))
theorem wpC_keep {α : Type} {vs : List Value} {m : Sem α} {Q : α → Shared → Prop} (h : wpC M A m Q E s) : wpC M A (m.keep vs) Q E s :=
  fun Γ p hΓ hC => by rw [Sem.wp_keep]; exact h Γ p hΓ hC
theorem wpC_callWith_fun {pos : Pos} {a : Addr} {o : Obj} {fd : FuncData} {e : Expr} {Q : Value → Shared → Prop} (hdat : o.data = .func fd)
    (h : wpAny M A (spliced (backTo pos (starEach [e] env))) (fun vs s₁ => s₁.heap.get? a = some o ∧ wpC M A (call (.ref a) vs) Q E s₁) E s) (he : starEach [e] env = (false, eval e env) :: starEach [] env := by rfl) :
    wpC M A (callWith pos (.ref a) [] (backTo pos (starEach [e] env)) []) Q E s := by
  rw [he] at h ⊢
  unfold callWith
  refine wpC_bindA (wpAny_holding (wpAny_mono (evalArgs_plain (f := .ref a) (Q := fun x s₁ => s₁.heap.get? a = some o ∧ wpC M A (call (.ref a) x.pos x.kw) Q E s₁) h) (fun x s₁ h₁ => wpC_standAt ?_) fun _ _ x => x))
  have tail : ∀ {t : Sem Value}, wpC M A t Q E s₁ → wpC M A (t >>= fun r => holding [r] point >>= fun _ => pure r) Q E s₁ :=
    fun ht => wpC_bind (wpC_mono ht (fun r s₂ hr => wpC_bindA (wpAny_holding (wpAny_point (wpC_pure hr)))) fun _ _ x => x)
  refine wpC_bindA (m := keeperOf (.ref a)) ?_
  unfold keeperOf
  refine wpAny_bind (wpAny_load h₁.1 ?_)
  rw [hdat]
  refine wpAny_pure ?_
  exact tail (by unfold callMarked; exact wpC_keep h₁.2)
end
section
variable {prog : Program} {w : World} {A : Around} {E : Value → Shared → Prop} {s : Shared} {env : Env}
theorem wpC_Try_except {body orelse : List Stmt} {h₀ : ExceptHandler} {hs : List ExceptHandler} {pos : Pos} {Q : Flow → Shared → Prop}
    (h : wpC (model prog w) A (execs body env) (fun f s₁ => match f with | .next => wpAny (model prog w) A (execs orelse env) Q E s₁ | f => Q f s₁)
      (fun e s₁ => wpAny (model prog w) A (noteFrame e env) (fun _ s₂ => wpAny (model prog w) A (setFlight e none) (fun _ s₃ => wpAny (model prog w) A (handleBy e env (h₀ :: hs)) Q E s₃) E s₂) E s₁) s) :
    wpC (model prog w) A (exec (.Try body (h₀ :: hs) orelse [] pos) env) Q E s := by
  rw [arm_exec_Try]
  exact wpC_bindA (wpAny_standAt (wpC_tryStmt_except h))
end
end Mine
end
section
open PySem PySem.W PyProof.Rows PySem.Calls PySem.NumText
set_option maxRecDepth 100000
set_option maxHeartbeats 4000000
namespace Mine
section
variable {prog : Program} {w : World} {A : Around} {E : Value → Shared → Prop} {s : Shared}
theorem objC2 {x : PySem.Str} {t : Tok} {Q : Value → Shared → Prop} {i : Int} (hs : (numSeenOf x).length ≤ 640) (hr : (int_private% "readNumeral") 0 10 (numSeenOf x) = (int_private% "Numeral.value") i) (hl : ¬ ((numSeenOf x).length == (numTextOf x).length) = true) (hh : A.handled = none) (hsz : (reprText x).length ≤ sizeLine) (hsz2 : (refusedText x).length ≤ sizeLine)
    (h : ∀ h' tk e t', Heap.MadeExc s.heap h' e "ValueError" [.str (refusedText x) t'] → E (.ref e) { s with heap := h', toks := tk }) :
    wpC (model prog w) A ((int_private% "intFromObject") (.str x t)) Q E s := by
  have hs' : (List.takeWhile (fun x => x != 0) (if (x.cps.all fun x => decide (x < 128)) = true then x.cps.toList else Unicode.numberText x.cps.toList)).length ≤ 640 := hs
  have hr' : (int_private% "readNumeral") 0 10 (List.takeWhile (fun x => x != 0) (if (x.cps.all fun x => decide (x < 128)) = true then x.cps.toList else Unicode.numberText x.cps.toList)) = (int_private% "Numeral.value") i := hr
  have hl' : ¬ ((List.takeWhile (fun x => x != 0) (if (x.cps.all fun x => decide (x < 128)) = true then x.cps.toList else Unicode.numberText x.cps.toList)).length == (if (x.cps.all fun x => decide (x < 128)) = true then x.cps.toList else Unicode.numberText x.cps.toList).length) = true := hl
  (conv => arg 3; whnf)
  rw [show (List.takeWhile (fun x => x != 0) (if (x.cps.all fun x => decide (x < 128)) = true then x.cps.toList else Unicode.numberText x.cps.toList)).length.decLe 640 = isTrue hs' from Subsingleton.elim _ _]
  (conv => arg 3; whnf)
  rw [hr']
  (conv => arg 3; whnf)
  rw [show instDecidableEqBool ((List.takeWhile (fun x => x != 0) (if (x.cps.all fun x => decide (x < 128)) = true then x.cps.toList else Unicode.numberText x.cps.toList)).length == (if (x.cps.all fun x => decide (x < 128)) = true then x.cps.toList else Unicode.numberText x.cps.toList).length) true = isFalse hl' from Subsingleton.elim _ _]
  (conv => arg 3; whnf)
  refine wpC_ruleK ?_
  refine wpC_bindA (m := Sem.pure ()) (wpAny_pure ?_)
  dsimp only
  refine wpC_bindA (wpAny_of_eq (a := none) rfl ?_)
  dsimp only
  refine wpC_bindA (wpAny_pyRepr_str ?_ hsz)
  refine wpC_bindA (wpAny_mkStr ?_ hsz2)
  refine wpC_bindA (wpAny_newExc_plain (cls := "ValueError") plainExc_ValueError (fun h' e M => ?_) (Nat.le_of_ble_eq_true rfl))
  refine wpC_bind (markC (wpC_any (wpAny_raiseNew_none hh (h _ _ _ _ M))))
theorem call_int_via {x : PySem.Str} {t : Tok} {Q : Value → Shared → Prop} (ho : ∀ (A' : Around) (Q' : Value → Shared → Prop) (E' : Value → Shared → Prop), A'.handled = A.handled → (∀ h' tk e t', Heap.MadeExc s.heap h' e "ValueError" [.str (refusedText x) t'] → E' (.ref e) { s with heap := h', toks := tk }) → wpC (model prog w) A' ((int_private% "intFromObject") (.str x t)) Q' E' s)
    (h : ∀ h' tk e t', Heap.MadeExc s.heap h' e "ValueError" [.str (refusedText x) t'] → E (.ref e) { s with heap := h', toks := tk }) :
    wpC (model prog w) A (call (.type "int") [.str x t]) Q E s := by
  refine wpC_call (codeC_of_tree ?_)
  show wpC _ _ (callAny (.type "int") _) _ _ _
  refine wpC_pure ⟨Code.quiet_builtin _ (by decide +kernel), codeC_builtin F.entry_type_call ?_⟩
  (conv => arg 3; whnf)
  refine wpC_bindA (m := Bind.madeBy (Value.type "int")) (wpAny_of_eq F.called_int.made ?_)
  dsimp only
  refine wpC_bindA (wpAny_pure ?_)
  refine wpC_bind (wpC_holding (wpC_call (codeC_of_tree ?_)))
  show wpC _ _ (do checkBuiltinCall "int.__new__" ⟨[.type "int", .str x t], []⟩; again (.builtin "int.__new__" ⟨[.type "int", .str x t], []⟩)) _ _ _
  refine wpC_bindA (wpAny_of_eq (F.newCall_int_1 _) (wpC_pure ⟨Code.quiet_builtin _ (by decide +kernel), codeC_builtin F.entry_int_new ?_⟩))
  (conv => arg 3; whnf)
  refine wpC_bindA (m := Bind.madeHere "int.__new__" (Value.type "int")) (wpAny_of_eq F.madeHere_int ?_)
  (conv => arg 3; whnf)
  exact wpC_bind (m := (int_private% "intFromObject") (.str x t)) (wpC_mono (Q := fun _ _ => False) (ho _ _ _ rfl h) (fun _ _ z => z.elim) fun _ _ z => z)
theorem refused_len {x : PySem.Str} (hc : ∀ c ∈ x.cps.toList, c < 16 ^ 8) (hx : x.length ≤ 200) : (reprText x).length ≤ sizeLine ∧ (refusedText x).length ≤ sizeLine := by
  have h1 := PySem.StrLaws.reprText_len x hc
  have h2 : (refusedText x).length ≤ 300 := by
    unfold refusedText
    rw [strLen_append]
    have e1 : (Str.ofString (toString "invalid literal for int() with base " ++ toString 10 ++ toString ": ")).length = 40 := by decide +kernel
    have e2 : ({ cps := (reprText x).cps.extract 0 200 } : PySem.Str).length ≤ 200 := by
      show ((reprText x).cps.extract 0 200).size ≤ 200
      rw [Array.size_extract]
      omega
    omega
  refine ⟨Nat.le_trans h1 (Nat.le_trans (by omega : 10 * x.length + 2 ≤ 2002) (by decide)), Nat.le_trans h2 (by decide)⟩
/-- int of a text: what it reads, or the refusal -/
theorem call_int_text {x : PySem.Str} {t : Tok} {Q : Value → Shared → Prop} (hx : x.length ≤ 200) (hc : ∀ c ∈ x.cps.toList, c < 16 ^ 8) (hh : A.handled = none)
    (hsome : ∀ n, PySem.intText? x = some n → Q (.int n s.toks) { s with toks := s.toks + 1 })
    (hnone : PySem.intText? x = none → ∀ h' tk e t', Heap.MadeExc s.heap h' e "ValueError" [.str (refusedText x) t'] → E (.ref e) { s with heap := h', toks := tk }) :
    wpC (model prog w) A (call (.type "int") [.str x t]) Q E s := by
  have hs : (numSeenOf x).length ≤ 640 := Nat.le_trans (seen_length x) (by omega)
  obtain ⟨r1, r2⟩ := refused_len hc hx
  rcases read0 x hs with ⟨n, h1, h2, h3⟩ | ⟨h1, h2 | ⟨i, h2, h3⟩⟩
  · exact wpC_any (KIN.call_text h1 (by omega) (hsome n h1))
  · exact call_int_via (fun A' Q' E' e h => objC hs h2 (e.trans hh) r1 r2 h) (hnone h1)
  · exact call_int_via (fun A' Q' E' e h => objC2 hs h2 h3 (e.trans hh) r1 r2 h) (hnone h1)
end
end Mine
end
section
open PySem PySem.W PyProof.Rows PySem.Calls
set_option maxRecDepth 100000
set_option maxHeartbeats 4000000
namespace Mine
section
variable {prog : Program} {w : World} {A : Around} {E : Value → Shared → Prop} {s : Shared} {Q : Value → Shared → Prop}
theorem meets_c (c : Nat) (t u : Tok) : Meets (Builtin.«str.__mod__» ⟨[.str (Str.ofString "Invalid time separator: %c") t, .str ⟨#[c]⟩ u], []⟩) (fun _ R s => ∀ t' k, R (.ok (.ret (.str (Str.ofString "Invalid time separator: " ++ (⟨#[c]⟩ : Str)) t'))) { s with toks := k }) := by
  apply KPc.meets_of
  intro _ _ _ _ _ _ _
  rw [KPc.entry_is_s]
  unfold Builtin.Str.percentFormat
  refine wpAny_bind (wpAny_isInstance (typeIs_str _ _ _) F.sub_str_tuple ?_)
  refine wpAny_bind (wpAny_of_eq (a := some _) rfl ?_)
  refine wpAny_bind (KPc.wp_fills_str ?_)
  intro _
  kpc_if
  refine wpAny_bind (wpAny_pure ?_)
  refine wpAny_bind ?_
  rw [KPc.range_list]
  refine KPc.start ?_
  intro _ _
  refine KPc.turn ?_; kpc_check; (repeat kpc_if)
  refine wpAny_pure ?_
  refine KPc.after_add0 (y := Str.ofString "Invalid time separator: ") (by kpc_g) (by kernel_rfl) (by kpc_obj) ?_
  intro _ _
  refine KPc.turn ?_; kpc_check; (repeat kpc_if)
  refine wpAny_bind ?_; refine wpAny_holding ?_; (repeat kpc_if)
  refine wpAny_bind (wpAny_of_eq (a := c) rfl ?_)
  refine wpAny_pure ?_
  refine wpAny_pure ?_
  refine KPc.after_add (y := ⟨#[c]⟩) (by kpc_g) rfl (KPc.obj_none (ite_self _)) ?_
  intro _ _
  refine KPc.turn ?_
  refine wpAny_ite (KPc.ite_no (KPc.short_good (by kpc_g) (Nat.le_of_ble_eq_true rfl)) ?_)
  (repeat kpc_if)
  refine wpAny_pure ?_
  kpc_if
  refine KPc.finish_ok (by kpc_g) (Nat.le_of_ble_eq_true rfl) rfl ?_
  assumption
theorem mod_c {c : Nat} {t u : Tok} (h : ∀ t' k, Q (.str (Str.ofString "Invalid time separator: " ++ (⟨#[c]⟩ : Str)) t') { s with toks := k }) :
    wpAny (model prog w) A (binaryOp .Mod (.str (Str.ofString "Invalid time separator: %c") t) (.str ⟨#[c]⟩ u)) Q E s :=
  binaryOp_meets (T := "str") (op := .Mod) (typeIs_str s _ t) (typeIs_str s _ u) F.fills_str_mod F.slot_str_mod F.entry_str_mod (F.args_str_mod_2 _ _) (meets_c c t u) (fun t' k => ⟨(fun e => nomatch e), h t' k⟩)
end
end Mine
end
section
open PySem PySem.W PyProof.Rows PySem.Calls
set_option maxRecDepth 100000
set_option maxHeartbeats 4000000
namespace Mine
theorem owner_map : Manifest.owners.lookup (String.ofList ['p', 'a', 'm'].reverse) = some Manifest.sig_map := by kernel_rfl
theorem slot_map_init : Slot "map" "__init__" "object.__init__" :=
  .of (owner := "object") (n := "__init__") (by rw [typeLookup_type, builtinLookup_eq_fast]; kernel_rfl) (by decide +kernel) (by decide +kernel) (by decide +kernel)
    (by first | exact .inl (by decide +kernel) | exact .inr (by decide +kernel)) (by rw [isSubtype_type]; kernel_rfl)
theorem slot_map_iter : Slot "map" "__iter__" "map.__iter__" :=
  .of (owner := "map") (n := "__iter__") (by rw [typeLookup_type, builtinLookup_eq_fast]; kernel_rfl) (by decide +kernel) (by decide +kernel) (by decide +kernel)
    (by first | exact .inl (by decide +kernel) | exact .inr (by decide +kernel)) (by rw [isSubtype_type]; kernel_rfl)
theorem slot_map_next : Slot "map" "__next__" "map.__next__" :=
  .of (owner := "map") (n := "__next__") (by rw [typeLookup_type, builtinLookup_eq_fast]; kernel_rfl) (by decide +kernel) (by decide +kernel) (by decide +kernel)
    (by first | exact .inl (by decide +kernel) | exact .inr (by decide +kernel)) (by rw [isSubtype_type]; kernel_rfl)
theorem args_map_next_1 (a : Value) : argsOk "map.__next__" ⟨[a], []⟩ := by
  unfold argsOk; rw [signature?_of (id := "map.__next__") (n := ['_', '_', 't', 'x', 'e', 'n', '_', '_']) (o := ['p', 'a', 'm']) (by kernel_rfl) owner_map]; kernel_rfl
theorem args_map_iter_1 (a : Value) : argsOk "map.__iter__" ⟨[a], []⟩ := by
  unfold argsOk; rw [signature?_of (id := "map.__iter__") (n := ['_', '_', 'r', 'e', 't', 'i', '_', '_']) (o := ['p', 'a', 'm']) (by kernel_rfl) owner_map]; kernel_rfl
theorem mro_map : mroOf (.type "map") = pure [.type "map", .type "object"] := by rw [mroOf_type]; kernel_rfl
theorem lookup_map_new : typeLookup (.type "map") "__new__" = pure (some (.builtin "map.__new__")) := by rw [typeLookup_type, builtinLookup_eq_fast]; kernel_rfl
theorem sub_map : isSubtype (.type "map") (.type "map") = pure true := by rw [isSubtype_type]; kernel_rfl
theorem called_map : TypeCalled "map" "map.__new__" "object.__init__" :=
  ⟨by decide +kernel, by decide +kernel, ⟨_, _, mro_map⟩, madeBy_type mro_map lookup_map_new (by decide +kernel), by decide +kernel, sub_map, slot_map_init⟩
theorem typeCall_map_2 (a b : Value) : checkTypeCall "map" ⟨[a, b], []⟩ = pure () := by kernel_rfl
theorem newCall_map_2 (a b : Value) : checkBuiltinCall "map.__new__" ⟨[.type "map", a, b], []⟩ = pure () := by kernel_rfl
theorem entry_map_new : entryFor table "map.__new__" = some Builtin.«map.__new__» := entryFor_of_tree (by kernel_rfl)
theorem entry_map_next : entryFor table "map.__next__" = some Builtin.«map.__next__» := entryFor_of_tree (by kernel_rfl)
theorem entry_map_iter : entryFor table "map.__iter__" = some Builtin.«dict_keyiterator.__iter__» :=
  entryFor_alias (id' := "dict_keyiterator.__iter__") (by kernel_rfl) (by first | rfl | decide +kernel | (unfold String.splitOn; simp +decide [String.splitOnAux])) (by decide +kernel) (by kernel_rfl)
theorem args_init_3 (a b c : Value) : argsOk "object.__init__" ⟨[a, b, c], []⟩ := F.args_object_init_3 a b c
theorem meets_map_new (f y : Value) (x : Str) (t : Tok) (hy : y = .str x t) :
    Meets (Builtin.«map.__new__» ⟨[.type "map", f, y], []⟩) (fun _ R s => R (.ok (.ret (.ref (s.heap.objs.size + 2)))) { s with heap := ((s.heap.push { cls := .type (strIterType x), data := .fields #[.str x t, .int 0 0] }).push { cls := .type "tuple", data := .seq #[.ref s.heap.objs.size] }).push { cls := .type "map", data := .fields #[.ref (s.heap.objs.size + 1), f] } }) :=
  .of_wp fun prog w A R s h => by
    subst hy
    obtain ⟨hp, g, d, tk, os⟩ := s
    have hsub := sub_map
    wp_walk using wpAny_pyIter_strU
    refine ⟨_, rfl, ?_⟩
    simp only [Heap.size_push]
    exact h
end Mine
end
section
open PySem PySem.W PyProof.Rows PySem.Calls
set_option maxRecDepth 100000
set_option maxHeartbeats 4000000
namespace Mine
abbrev IsMap (h : Heap) (M T : Addr) (f : Value) : Prop := h.get? M = some { cls := .type "map", data := .fields #[.ref T, f] }
abbrev IsOne (h : Heap) (T I : Addr) : Prop := h.get? T = some { cls := .type "tuple", data := .seq #[.ref I] }
section
variable {prog : Program} {w : World} {A : Around} {E : Value → Shared → Prop} {s : Shared}
theorem map_next_tree {M T I : Addr} {f : Value} {Q : Value → Shared → Prop} (hM : IsMap s.heap M T f) (hT : IsOne s.heap T I) (hMI : M ≠ I)
    (h : wpAny (model prog w) A (Builtin.SmallTypes.nextOf (.ref I)) (fun v s₁ => (∃ o, s₁.heap.get? M = some o ∧ o.data = .fields #[.ref T, f]) ∧ wpAny (model prog w) A (call f [v]) Q E s₁) E s) :
    wpAny (model prog w) A (Builtin.«map.__next__» ⟨[.ref M], []⟩) (fun fin s' => ∃ v, fin = .done (.ret v) ∧ Q v s') E s := by
  show wpAny _ _ (field (.ref M) 0 >>= _) _ _ s
  refine wpAny_bind (wpAny_field hM rfl (x := .ref T) rfl ?_)
  refine wpAny_bind (wpAny_seqItems hT rfl ?_)
  dsimp only
  refine wpAny_bind ?_
  simp only [← Array.forIn_toList, List.forIn_cons, List.forIn_nil]
  refine wpAny_bind (wpAny_bind (wpAny_holding (wpAny_mono h (fun v s₁ q => ?_) fun _ _ e => e)))
  obtain ⟨⟨o, ho, hd⟩, hc⟩ := q
  refine wpAny_pure ?_
  dsimp only
  refine wpAny_pure ?_
  refine wpAny_bind (wpAny_field ho hd (x := f) rfl ?_)
  refine wpAny_bind (wpAny_holding (wpAny_mono hc (fun r s₂ hr => ?_) fun _ _ e => e))
  refine wpAny_bind (wpAny_letGo ?_)
  exact wpAny_pure ⟨_, rfl, hr⟩
theorem pyNext_map_item {M T I : Addr} {f : Value} {Q : Option Value → Shared → Prop} (hM : IsMap s.heap M T f) (hT : IsOne s.heap T I) (hMI : M ≠ I)
    (h : wpAny (model prog w) A.in1 (Builtin.SmallTypes.nextOf (.ref I)) (fun v s₁ => (∃ o, s₁.heap.get? M = some o ∧ o.data = .fields #[.ref T, f]) ∧ wpAny (model prog w) A.in1 (call f [v]) (fun r s₂ => Q (some r) s₂) (fun _ _ => False) s₁) (fun _ _ => False) s) :
    wpAny (model prog w) A (pyNext (.ref M)) Q E s := by
  have hTy : s.TypeIs (.ref M) "map" := ⟨_, hM, rfl⟩
  unfold pyNext
  refine wpAny_bind (wpAny_attempt (wpAny_callSpecial?_slot (name := Str.ofString "__next__") hTy slot_map_next (wpAny_call_entry slot_map_next hTy entry_map_next ?_ (args_map_next_1 _))))
  refine wpAny_mono (map_next_tree hM hT hMI h) (fun fin s' q => ?_) fun _ _ e => e.elim
  obtain ⟨v, rfl, hq⟩ := q
  exact ⟨v, rfl, wpAny_pure hq⟩
theorem pyNext_map_end {M T I : Addr} {f : Value} {Q : Option Value → Shared → Prop} (hM : IsMap s.heap M T f) (hT : IsOne s.heap T I) (hMI : M ≠ I)
    (h : wpAny (model prog w) A.in1 (Builtin.SmallTypes.nextOf (.ref I)) (fun _ _ => False) (fun e s₁ => ∃ a o, e = .ref a ∧ s₁.heap.get? a = some o ∧ o.cls = .type "StopIteration" ∧ Q none s₁) s) :
    wpAny (model prog w) A (pyNext (.ref M)) Q E s := by
  have hTy : s.TypeIs (.ref M) "map" := ⟨_, hM, rfl⟩
  unfold pyNext
  refine wpAny_bind (wpAny_attempt (wpAny_callSpecial?_slot (name := Str.ofString "__next__") hTy slot_map_next (wpAny_call_entry slot_map_next hTy entry_map_next ?_ (args_map_next_1 _))))
  refine wpAny_mono (map_next_tree (Q := fun _ _ => False) hM hT hMI (wpAny_mono h (fun _ _ z => z.elim) fun _ _ z => z)) (fun fin s' q => ?_) fun e s₁ q => ?_
  · obtain ⟨v, rfl, hq⟩ := q
    exact hq.elim
  · obtain ⟨a, o, rfl, ho, hc, hq⟩ := q
    exact wpAny_bind (wpAny_isInstance (T := "StopIteration") (b := true) ⟨o, ho, hc⟩ isSubtype_stop (wpAny_pure hq))
end
end Mine
end
section
open PySem PySem.W PyProof.Rows PySem.Calls
set_option maxRecDepth 100000
set_option maxHeartbeats 4000000
namespace Mine
section
variable {prog : Program} {w : World} {A : Around} {E : Value → Shared → Prop} {s : Shared} {M T I : Addr} {f : Value}
theorem pyIter_map {Q : Value → Shared → Prop} (hM : IsMap s.heap M T f) (h : Q (.ref M) s) : wpAny (model prog w) A (pyIter (.ref M)) Q E s := by
  have hT : s.TypeIs (.ref M) "map" := ⟨_, hM, rfl⟩
  refine wpAny_pyIter_slot hT slot_map_iter (wpAny_call_entry slot_map_iter hT entry_map_iter ?_ (args_map_iter_1 _))
  show wpAny _ _ (ret (.ref M)) _ _ s
  exact wpAny_pure ⟨_, rfl, "map", _, hT, slot_map_next.lookup, h⟩
/-- all of an iterator that gives truths, by an invariant of the whole state -/
theorem all_loop_inv {R : Result → Shared → Prop} (Inv : Nat → Shared → Prop) (End : Shared → Prop) (tr : Nat → Bool) (n : Nat)
    (item : ∀ i s, i < n → Inv i s → wpAny (model prog w) A.in1 (pyNext (.ref I)) (fun r s' => r = some (.bool (tr i)) ∧ Inv (i + 1) s') (fun _ _ => False) s)
    (fin : ∀ s, Inv n s → wpAny (model prog w) A.in1 (pyNext (.ref I)) (fun r s' => r = none ∧ End s') (fun _ _ => False) s) (hi : ∀ i s, Inv i s → End s) :
    ∀ (k i : Nat) (s : Shared), n - i = k → i ≤ n → Inv i s → (∀ s', End s' → R (.ok (.ret (.bool (((List.range n).drop i).all tr)))) s') → codeAny (model prog w) A (.builtin "all.loop" ⟨[.ref I], []⟩) R s := by
  intro k
  induction k with
  | zero =>
    intro i s hk hin hI hR
    obtain rfl : i = n := by omega
    refine codeAny_builtin F.entry_all_loop ?_
    rw [Around.under_plainId F.plain_all_loop _]
    show wpAny _ A.in1 (pyNext (.ref I) >>= _) _ _ s
    refine wpAny_bind (wpAny_mono (fin s hI) (fun r s' q => ?_) fun _ _ z => z.elim)
    obtain ⟨rfl, hE⟩ := q
    refine wpAny_bind (wpAny_rule (wpAny_pure ?_))
    have := hR s' hE
    rw [List.drop_of_length_le (by simp)] at this
    exact this
  | succ k ih =>
    intro i s hk hin hI hR
    have hlt : i < n := by omega
    have hd : (List.range n).drop i = i :: (List.range n).drop (i + 1) := by
      rw [List.drop_eq_getElem_cons (by simpa using hlt)]; simp
    refine codeAny_builtin F.entry_all_loop ?_
    rw [Around.under_plainId F.plain_all_loop _]
    show wpAny _ A.in1 (pyNext (.ref I) >>= _) _ _ s
    refine wpAny_bind (wpAny_mono (item i s hlt hI) (fun r s' q => ?_) fun _ _ z => z.elim)
    obtain ⟨rfl, hI'⟩ := q
    refine wpAny_bind (wpAny_holding (wpAny_truthy_bool ?_))
    refine wpAny_bind (wpAny_letGo ?_)
    cases hb : tr i with
    | true =>
      simp only [if_true]
      refine wpAny_pure ⟨plainId_quiet F.plain_all_loop _, ih (i + 1) _ (by omega) hlt hI' fun s'' hE => ?_⟩
      have := hR s'' hE
      rw [hd, List.all_cons, hb, Bool.true_and] at this
      exact this
    | false =>
      simp only [Bool.false_eq_true, if_false]
      have := hR s' (hi _ _ hI')
      rw [hd, List.all_cons, hb, Bool.false_and] at this
      first
        | exact wpAny_pure this
        | exact wpAny_bind (wpAny_rule (wpAny_pure this))
theorem call_all_inv {Q : Value → Shared → Prop} (Inv : Nat → Shared → Prop) (End : Shared → Prop) (tr : Nat → Bool) (n : Nat)
    (hit : wpAny (model prog w) A.in1 (pyIter (.ref I)) (fun it s' => it = .ref I ∧ Inv 0 s') (fun _ _ => False) s)
    (item : ∀ i s, i < n → Inv i s → wpAny (model prog w) A.in1 (pyNext (.ref I)) (fun r s' => r = some (.bool (tr i)) ∧ Inv (i + 1) s') (fun _ _ => False) s)
    (fin : ∀ s, Inv n s → wpAny (model prog w) A.in1 (pyNext (.ref I)) (fun r s' => r = none ∧ End s') (fun _ _ => False) s) (hi : ∀ i s, Inv i s → End s)
    (h : ∀ s', End s' → Q (.bool ((List.range n).all tr)) s') : wpAny (model prog w) A (call (.builtin "all") [.ref I]) Q E s := by
  refine call_function_tree F.kind_all F.plain_all F.entry_all (F.args_all1 _) ?_
  unfold Builtin.«all»
  refine wpAny_bind (m := oneArg "all" _) (wpAny_pure ?_)
  refine wpAny_bind (wpAny_mono hit (fun it s₂ h₂ => ?_) fun _ _ e => e.elim)
  obtain ⟨rfl, h0⟩ := h₂
  exact wpAny_pure ⟨plainId_quiet F.plain_all_loop _, all_loop_inv Inv End tr n item fin hi n 0 s₂ rfl (Nat.zero_le _) h0 fun s' hE => by simpa using h s' hE⟩
end
end Mine
end
section
open PySem PySem.W PyProof.Rows
set_option maxRecDepth 100000
set_option maxHeartbeats 8000000
namespace Mine
open_top hd for PySem.Challenge.rw_km0086_08
end Mine
end
section
open PySem PySem.W PyProof.Rows PySem.Calls
set_option maxRecDepth 100000
set_option pp.maxSteps 1500
set_option maxHeartbeats 8000000
set_option rowWalk.seconds 0
namespace Mine
local macro_rules | `(tactic| k_room) => `(tactic| ((try simp only [depth_under_make, depth_under_kw, depth_in1, depth_deeper, depth_caller]); first | decide | omega | (simp only [recursionLimit] at *; omega)))
/-- one of the ASCII figures -/
def digQ (c : Nat) : Bool := !(Builtin.Str.occurrences (Str.ofString "0123456789") ⟨#[c]⟩ 0 (Str.length (Str.ofString "0123456789")) 1).isEmpty
section
variable {w : World} {A A₀ : Around} {E : Value → Shared → Prop} {s : Shared} {L : Addr} {h₀ base : Heap} {m mg mb : Str → Option Value} {news : List (Addr × Obj)} {p : Program} {loose : List Str} {mean : ExcName → Option Value} {Q : Value → Shared → Prop} {env : Env} {outer : List Env}
theorem digit_call (B : Below A₀ base outer h₀) (F : Fr h₀ L s.heap m) (X : (hd.heap_39 w.params).In h₀) (N : News h₀ L s.heap news) (T : Top p loose mean mg mb h₀) (hA : A.frames = some (env :: outer)) (hf : env.frame = some L) (hke : env.scope.kind = .function)
  (hroom : A.depth + 10 < recursionLimit) {c : Nat} {t : Tok} (hok : ∀ h' tk, Fr h₀ L h' m → News h₀ L h' news → Q (.bool (digQ c)) { s with heap := h', toks := tk }) :
  wpAny (model PySem.Challenge.rw_km0086_08.row.prog w) A (call (.ref 21) [.str ⟨#[c]⟩ t]) Q E s := by
  w_top off
  refine wpAny_call ?_
  refine' code_def B F X N T hA hf hke ?k6 ?k7 ?k8 ?k9 ?kB ?_ ?c2 ?c3 ?c4 ?c5
  case k6 => k_is
  case k7 => k_is
  case k8 => k_room
  case k9 => exact BindsTo.of_eq rfl
  case kB => exact locs rfl
  case c2 => exact rfl
  case c3 => exact rfl
  case c4 => exact rfl
  case c5 => decide
  intro g' L' h' FG' F' N' B' X' T'
  (try dsimp only)
  k_steps
  (with_reducible rename Fr h₀ L _ m => FE)
  (with_reducible rename News h₀ L _ _ => NE)
  exact hok _ _ FE NE
end
section
variable {prog : Program} {w : World} {A : Around} {E : Value → Shared → Prop} {s : Shared} {L : Addr} {h₀ : Heap} {m : Str → Option Value} {news : List (Addr × Obj)} {Q : Value → Shared → Prop}
abbrev mapO (T : Addr) (f : Value) : Obj := { cls := .type "map", data := .fields #[.ref T, f] }
abbrev oneO (I : Addr) : Obj := { cls := .type "tuple", data := .seq #[.ref I] }
abbrev itO (y : Str) (t : Tok) (i : Nat) : Obj := { cls := .type (strIterType y), data := .fields #[.str y t, .int i 0] }
/-- a map over a text -/
theorem map_str (F : Fr h₀ L s.heap m) (N : News h₀ L s.heap news) {f : Value} {y : Str} {t : Tok}
    (h : ∀ h' I, Fr h₀ L h' m → News h₀ L h' ((I + 2, mapO (I + 1) f) :: (I + 1, oneO I) :: (I, itO y t 0) :: news) → (∀ p ∈ news, p.1 < I) → Q (.ref (I + 2)) { s with heap := h' }) :
    wpAny (model prog w) A (call (.type "map") [f, .str y t]) Q E s := by
  refine callType_new called_map (by decide) (typeCall_map_2 _ _) (newCall_map_2 _ _) (fun obj => args_init_3 obj _ _) entry_map_new (meets_map_new f _ y t rfl) ?_
  have e1 : (s.heap.push (itO y t 0)).objs.size = s.heap.objs.size + 1 := Heap.size_push _ _
  have e2 : ((s.heap.push (itO y t 0)).push (oneO s.heap.objs.size)).objs.size = s.heap.objs.size + 2 := by rw [Heap.size_push, e1]
  have N1 := News.push F N (itO y t 0)
  have F1 := F.push (itO y t 0)
  have N2 := News.push F1 N1 (oneO s.heap.objs.size)
  have F2 := F1.push (oneO s.heap.objs.size)
  have N3 := News.push F2 N2 (mapO (s.heap.objs.size + 1) f)
  have F3 := F2.push (mapO (s.heap.objs.size + 1) f)
  rw [e1] at N2 N3
  rw [e2] at N3
  refine ⟨⟨_, (N3 _ (.head _)).1, rfl⟩, h _ _ F3 N3 fun q hq => Heap.lt_size (N q hq).1⟩
end
end Mine
end
section
open PySem PySem.W PyProof.Rows PySem.Calls
set_option maxRecDepth 100000
set_option maxHeartbeats 4000000
namespace Mine
def trQ (y : Str) (i : Nat) : Bool := match y.cps[i]? with | some c => digQ c | none => true
theorem all_trQ (y : Str) : (List.range y.cps.size).all (trQ y) = y.cps.toList.all digQ := by
  rw [Bool.eq_iff_iff, List.all_eq_true, List.all_eq_true]
  constructor
  · intro h c hc
    obtain ⟨i, hi, rfl⟩ := List.getElem_of_mem hc
    have hi' : i < y.cps.size := by simpa using hi
    have := h i (List.mem_range.mpr hi')
    unfold trQ at this
    rw [Array.getElem?_eq_getElem hi'] at this
    simpa using this
  · intro h i hi
    have hi' := List.mem_range.mp hi
    unfold trQ
    rw [Array.getElem?_eq_getElem hi']
    exact h _ (Array.getElem_mem_toList hi')
section
variable {w : World} {A A₀ : Around} {E : Value → Shared → Prop} {s : Shared} {L : Addr} {h₀ base : Heap} {m mg mb : Str → Option Value} {news : List (Addr × Obj)} {p : Program} {loose : List Str} {mean : ExcName → Option Value} {Q : Value → Shared → Prop} {env : Env} {outer : List Env}
/-- the iterator of a text after one more step -/
theorem it_step {h h' : Heap} {I : Addr} {o : Obj} {rest : List (Addr × Obj)} (F : Fr h₀ L h m) (N : News h₀ L h ((I, o) :: rest)) (hoff : ∀ p ∈ rest, p.1 ≠ I) (hs : Heap.SameBut I h h') {o' : Obj} (ho : h'.get? I = some o') :
    Fr h₀ L h' m ∧ News h₀ L h' ((I, o') :: rest) := by
  have hI := N _ (.head _)
  have hk : ∀ b o, b ≠ I → h.get? b = some o → h'.get? b = some o := fun b o hb e => (hs.2 b hb).trans e
  refine ⟨⟨F.ns.at' fun o e => hk _ o (fun e => hI.2.1 e.symm) e, fun b o e => hk b o (fun q => ?_) (F.keep b o e), F.above⟩, fun q hq => ?_⟩
  · rw [q, hI.2.2] at e
    cases e
  · rcases List.mem_cons.mp hq with rfl | hq
    · exact ⟨ho, hI.2.1, hI.2.2⟩
    · exact ⟨hk _ _ (hoff q hq) (N q (.tail _ hq)).1, (N q (.tail _ hq)).2⟩
theorem nextOf_it {prog : Program} {I : Addr} {y : Str} {t : Tok} {i : Nat} {o : Obj} {Q : Value → Shared → Prop} (hi : s.heap.get? I = some o) (hc : o.cls = .type (strIterType y)) (hd : o.data = .fields #[.str y t, .int i 0]) {c : Nat} (hx : y.cps[i]? = some c)
    (hQ : ∀ h' o', h'.get? I = some o' → o'.cls = .type (strIterType y) → o'.data = .fields #[.str y t, .int ((i + 1 : Nat) : Int) 0] → Heap.SameBut I s.heap h' → Q (.str ⟨#[c]⟩ s.toks) { s with heap := h', toks := s.toks + 1 }) :
    wpAny (model prog w) A (Builtin.SmallTypes.nextOf (.ref I)) Q E s := by
  cases ha : y.cps.all (· < 128)
  · have e : strIterType y = "str_iterator" := by simp [strIterType, ha]
    rw [e] at hc hQ
    exact wpAny_nextOf_wide_item ⟨o, hi, hc, hd⟩ hx fun h' ⟨o', a, b, d⟩ hs => hQ h' o' a b d hs
  · have e : strIterType y = "str_ascii_iterator" := by simp [strIterType, ha]
    rw [e] at hc hQ
    exact wpAny_nextOf_ascii_item ⟨o, hi, hc, hd⟩ hx fun h' ⟨o', a, b, d⟩ hs => hQ h' o' a b d hs
theorem nextOf_end {prog : Program} {I : Addr} {y : Str} {t : Tok} {i : Nat} {o : Obj} {Q : Value → Shared → Prop} (hh : A.handled = none) (hi : s.heap.get? I = some o) (hc : o.cls = .type (strIterType y)) (hd : o.data = .fields #[.str y t, .int i 0]) (hx : y.cps[i]? = none)
    (hE : ∀ h' e, Heap.ExtBut I s.heap h' → (∃ o, h'.get? e = some o ∧ o.cls = .type "StopIteration") → E (.ref e) { s with heap := h' }) :
    wpAny (model prog w) A (Builtin.SmallTypes.nextOf (.ref I)) Q E s := by
  cases ha : y.cps.all (· < 128)
  · have e : strIterType y = "str_iterator" := by simp [strIterType, ha]
    rw [e] at hc
    exact wpAny_nextOf_wide_end hh ⟨o, hi, hc, hd⟩ hx hE
  · have e : strIterType y = "str_ascii_iterator" := by simp [strIterType, ha]
    rw [e] at hc
    exact wpAny_nextOf_ascii_end hh ⟨o, hi, hc, hd⟩ hx hE
theorem all_map (B : Below A₀ base outer h₀) (F : Fr h₀ L s.heap m) (X : (hd.heap_39 w.params).In h₀) (T : Top p loose mean mg mb h₀) (hA : A.frames = some (env :: outer)) (hf : env.frame = some L) (hke : env.scope.kind = .function)
    (hroom : A.depth + 10 < recursionLimit) (hh : A.handled = none) {y : Str} {t : Tok} {I : Addr} (N : News h₀ L s.heap ((I + 2, mapO (I + 1) (.ref 21)) :: (I + 1, oneO I) :: (I, itO y t 0) :: news)) (hoff : ∀ p ∈ news, p.1 ≠ I)
    (hok : ∀ h' tk, Fr h₀ L h' m → News h₀ L h' news → Q (.bool (y.cps.toList.all digQ)) { s with heap := h', toks := tk }) :
    wpAny (model PySem.Challenge.rw_km0086_08.row.prog w) A (call (.builtin "all") [.ref (I + 2)]) Q E s := by
  have hoff3 : ∀ q ∈ ((I + 2, mapO (I + 1) (.ref 21)) :: (I + 1, oneO I) :: news : List (Addr × Obj)), q.1 ≠ I := by
    intro q hq
    rcases List.mem_cons.mp hq with rfl | hq
    · exact Nat.ne_of_gt (Nat.lt_add_of_pos_right (by decide))
    · rcases List.mem_cons.mp hq with rfl | hq
      · exact Nat.ne_of_gt (Nat.lt_add_of_pos_right (by decide))
      · exact hoff q hq
  refine call_all_inv (fun i s' => ∃ h tk o, s' = { s with heap := h, toks := tk } ∧ Fr h₀ L h m ∧ o.cls = .type (strIterType y) ∧ o.data = .fields #[.str y t, .int (i : Int) 0] ∧ News h₀ L h ((I, o) :: (I + 2, mapO (I + 1) (.ref 21)) :: (I + 1, oneO I) :: news))
    (fun s' => ∃ h tk, s' = { s with heap := h, toks := tk } ∧ Fr h₀ L h m ∧ News h₀ L h news) (trQ y) y.cps.size ?_ ?_ ?_ ?_ ?_
  · refine pyIter_map (N _ (.head _)).1 ⟨rfl, s.heap, s.toks, itO y t 0, rfl, F, rfl, rfl, news_sub N ?_⟩
    intro q hq
    rcases List.mem_cons.mp hq with rfl | hq
    · exact .tail _ (.tail _ (.head _))
    · rcases List.mem_cons.mp hq with rfl | hq
      · exact .head _
      · rcases List.mem_cons.mp hq with rfl | hq
        · exact .tail _ (.head _)
        · exact .tail _ (.tail _ (.tail _ hq))
  · rintro i s' hi ⟨h, tk, o, rfl, F', hc, hd, N'⟩
    have hx : y.cps[i]? = some y.cps[i] := Array.getElem?_eq_getElem hi
    refine pyNext_map_item (T := I + 1) (I := I) (f := .ref 21) (N' _ (.tail _ (.head _))).1 (N' _ (.tail _ (.tail _ (.head _)))).1 (hoff3 _ (.head _)) ?_
    refine nextOf_it (N' _ (.head _)).1 hc hd hx fun h' o' a b d hs => ?_
    obtain ⟨F2, N2⟩ := it_step F' N' hoff3 hs a
    refine ⟨⟨_, (N2 _ (.tail _ (.head _))).1, rfl⟩, ?_⟩
    refine digit_call (A := A.in1.in1) (s := { s with heap := h', toks := tk + 1 }) B F2 X N2 T hA hf hke hroom fun h3 tk3 F3 N3 => ?_
    refine ⟨?_, h3, tk3, o', rfl, F3, b, d, N3⟩
    unfold trQ
    rw [hx]
  · rintro s' ⟨h, tk, o, rfl, F', hc, hd, N'⟩
    refine pyNext_map_end (T := I + 1) (I := I) (f := .ref 21) (N' _ (.tail _ (.head _))).1 (N' _ (.tail _ (.tail _ (.head _)))).1 (hoff3 _ (.head _)) ?_
    refine nextOf_end hh (N' _ (.head _)).1 hc hd (Array.getElem?_eq_none (Nat.le_refl _)) fun h' e hx he => ?_
    obtain ⟨oe, h1, h2⟩ := he
    have hI := N' _ (.head _)
    refine ⟨e, oe, rfl, h1, h2, rfl, h', tk, rfl, ⟨F'.ns.at' fun o e => hx _ o (fun e => hI.2.1 e.symm) e, fun b o e => hx b o (fun q => ?_) (F'.keep b o e), F'.above⟩, fun q hq => ?_⟩
    · rw [q, hI.2.2] at e
      cases e
    · have q2 := N' q (.tail _ (.tail _ (.tail _ hq)))
      exact ⟨hx _ _ (hoff q hq) q2.1, q2.2⟩
  · rintro i s' ⟨h, tk, o, rfl, F', hc, hd, N'⟩
    exact ⟨h, tk, rfl, F', news_sub N' fun q hq => .tail _ (.tail _ (.tail _ hq))⟩
  · rintro s' ⟨h, tk, rfl, F', N'⟩
    rw [all_trQ]
    exact hok h tk F' N'
end
end Mine
end
section
open PySem PySem.W PyProof.Rows PySem.Calls PySem.Builtin PySem.Builtin.Str
set_option maxRecDepth 100000
namespace Mine
theorem slice_cp {x : PySem.Str} {l u : Option Int} {c : Nat} (h : c ∈ (Txt.slice x l u).cps.toList) : c ∈ x.cps.toList := by
  unfold Txt.slice at h
  split at h
  · exact h
  · have h' : c ∈ (strSliceIndices l u 1 x.length).filterMap (x.cps[·]?) := by simpa using h
    obtain ⟨i, _, e⟩ := List.mem_filterMap.mp h'
    have := Array.getElem?_eq_some_iff.mp e
    obtain ⟨hi, rfl⟩ := this
    exact Array.getElem_mem_toList hi
theorem slice_len (x : PySem.Str) (l u : Option Int) : (Txt.slice x l u).length ≤ x.length := by
  unfold Txt.slice
  split
  · exact Nat.le_refl _
  · show ((strSliceIndices l u 1 x.length).filterMap (x.cps[·]?)).toArray.size ≤ _
    rw [List.size_toArray]
    exact Nat.le_trans (List.length_filterMap_le _ _) (sliceIndices_le l u _)
def pairS (x : PySem.Str) (pos : Int) : PySem.Str := Txt.slice x (some pos) (some (pos + 2))
def nextS (x : PySem.Str) (pos : Int) : PySem.Str := Txt.slice x (some pos) (some (pos + 1))
def sepN (b : Bool) : Int := if b then 1 else 0
/-- one pair of a clock -/
def stepP (x : PySem.Str) (n : Nat) (pos : Int) (sep : Bool) (cs : List Int) (r : Option Int) (go : Int → Bool → List Int → Except PySem.Str (Int × List Int)) : Except PySem.Str (Int × List Int) :=
  if (x.length : Int) - pos < 2 then .error (PySem.Str.ofString "Incomplete time component")
  else match r with
    | none => .error (refusedText (pairS x pos))
    | some v =>
      if (nextS x (pos + 2)).length = 0 ∨ n = 0 then .ok (pos + 2, cs ++ [v])
      else if sep = true ∧ (nextS x (pos + 2) != PySem.Str.ofString ":") = true then .error (PySem.Str.ofString "Invalid time separator: " ++ nextS x (pos + 2))
      else go (pos + 2 + sepN sep) sep (cs ++ [v])
def sepP (x : PySem.Str) (n : Nat) (pos : Int) (sep : Bool) : Bool := if n = 2 then nextS x (pos + 2) == PySem.Str.ofString ":" else sep
/-- the pairs of a clock: how far they go, and their numbers -/
noncomputable def goP (x : PySem.Str) (n : Nat) : Int → Bool → List Int → Except PySem.Str (Int × List Int) :=
  Nat.rec (motive := fun _ => Int → Bool → List Int → Except PySem.Str (Int × List Int)) (fun pos _ cs => .ok (pos, cs)) (fun n ih pos sep cs => stepP x n pos (sepP x n pos sep) cs (PySem.intText? (pairS x pos)) ih) n
section
variable {x : PySem.Str} {n : Nat} {pos : Int} {sep : Bool} {cs : List Int}
theorem goP_succ : goP x (n + 1) pos sep cs = stepP x n pos (sepP x n pos sep) cs (PySem.intText? (pairS x pos)) (goP x n) := rfl
theorem goP_short (h : (x.length : Int) - pos < 2) : goP x (n + 1) pos sep cs = .error (PySem.Str.ofString "Incomplete time component") := by
  rw [goP_succ]
  exact if_pos h
theorem goP_bad (h : ¬ (x.length : Int) - pos < 2) (hi : PySem.intText? (pairS x pos) = none) : goP x (n + 1) pos sep cs = .error (refusedText (pairS x pos)) := by
  rw [goP_succ, hi]
  exact if_neg h
theorem goP_stop {v : Int} (h : ¬ (x.length : Int) - pos < 2) (hi : PySem.intText? (pairS x pos) = some v) (hn : (nextS x (pos + 2)).length = 0 ∨ n = 0) : goP x (n + 1) pos sep cs = .ok (pos + 2, cs ++ [v]) := by
  rw [goP_succ, hi]
  exact (if_neg h).trans (if_pos hn)
theorem goP_sep {v : Int} (h : ¬ (x.length : Int) - pos < 2) (hi : PySem.intText? (pairS x pos) = some v) (hn : ¬ ((nextS x (pos + 2)).length = 0 ∨ n = 0)) (hs : sepP x n pos sep = true) (hx : (nextS x (pos + 2) != PySem.Str.ofString ":") = true) :
    goP x (n + 1) pos sep cs = .error (PySem.Str.ofString "Invalid time separator: " ++ nextS x (pos + 2)) := by
  rw [goP_succ, hi]
  exact (if_neg h).trans ((if_neg hn).trans (if_pos ⟨hs, hx⟩))
theorem goP_on {v : Int} (h : ¬ (x.length : Int) - pos < 2) (hi : PySem.intText? (pairS x pos) = some v) (hn : ¬ ((nextS x (pos + 2)).length = 0 ∨ n = 0)) (hs : ¬ (sepP x n pos sep = true ∧ (nextS x (pos + 2) != PySem.Str.ofString ":") = true)) :
    goP x (n + 1) pos sep cs = goP x n (pos + 2 + sepN (sepP x n pos sep)) (sepP x n pos sep) (cs ++ [v]) := by
  rw [goP_succ, hi]
  exact (if_neg h).trans ((if_neg hn).trans (if_neg hs))
end
theorem indices_one {p : Int} (h0 : 0 ≤ p) (n : Nat) : (strSliceIndices (some p) (some (p + 1)) 1 n).length ≤ 1 := by
  unfold strSliceIndices sliceRange
  simp only [show (1 : Int) > 0 by decide, if_true, List.length_map, List.length_range]
  repeat' split
  all_goals (try simp only [Int.ediv_one])
  all_goals omega
theorem next_one {x : PySem.Str} {p : Int} (h0 : 0 ≤ p) (h : (nextS x p).length ≠ 0) : ∃ c, nextS x p = ⟨#[c]⟩ := by
  have hl : (nextS x p).length ≤ 1 := by
    unfold nextS Txt.slice
    split
    · rename_i e
      have e2 : (strSliceIndices (some p) (some (p + 1)) 1 x.length).length = x.length := by simpa using e
      rw [← e2]
      exact indices_one h0 _
    · show ((strSliceIndices (some p) (some (p + 1)) 1 x.length).filterMap (x.cps[·]?)).toArray.size ≤ 1
      rw [List.size_toArray]
      exact Nat.le_trans (List.length_filterMap_le _ _) (indices_one h0 _)
  generalize nextS x p = y at h hl ⊢
  obtain ⟨⟨l⟩⟩ := y
  have h1 : l.length ≠ 0 := h
  have h2 : l.length ≤ 1 := hl
  rcases l with _ | ⟨c, _ | ⟨d, r⟩⟩
  · exact absurd rfl h1
  · exact ⟨c, rfl⟩
  · simp only [List.length_cons] at h2
    omega
/-- the weight of a fraction's last figure -/
def fcP (rem : Int) : Int := if rem = 1 then 100000 else if rem = 2 then 10000 else if rem = 3 then 1000 else if rem = 4 then 100 else 10
def numP (x : PySem.Str) (c0 c1 c2 f : Int) (y : PySem.Str) (r : Option Int) : Except PySem.Str (List Int) :=
  match r with
  | none => .error (refusedText y)
  | some n => .ok [c0, c1, c2, n * f]
/-- what stands behind the pairs -/
def tailP (x : PySem.Str) (pos c0 c1 c2 : Int) : Except PySem.Str (List Int) :=
  if pos < x.length then
    if (occurrences (PySem.Str.ofString ".,") (Txt.item x pos) 0 (PySem.Str.length (PySem.Str.ofString ".,")) 1).isEmpty = true then .error (PySem.Str.ofString "Invalid microsecond component")
    else if (Txt.slice x (some (pos + 1)) none).cps.toList.all digQ = false then .error (PySem.Str.ofString "Non-digit values in fraction")
    else if 6 ≤ (x.length : Int) - (pos + 1) then numP x c0 c1 c2 1 (Txt.slice x (some (pos + 1)) (some (pos + 1 + 6))) (PySem.intText? (Txt.slice x (some (pos + 1)) (some (pos + 1 + 6))))
    else numP x c0 c1 c2 (fcP ((x.length : Int) - (pos + 1))) (Txt.slice x (some (pos + 1)) (some (pos + 1 + ((x.length : Int) - (pos + 1))))) (PySem.intText? (Txt.slice x (some (pos + 1)) (some (pos + 1 + ((x.length : Int) - (pos + 1))))))
  else .ok [c0, c1, c2, 0]
def padP (x : PySem.Str) (pos : Int) (l : List Int) : Except PySem.Str (List Int) := match l with | [c0, c1, c2] => tailP x pos c0 c1 c2 | _ => .error PySem.Str.empty
def overP (x : PySem.Str) (r : Except PySem.Str (Int × List Int)) : Except PySem.Str (List Int) := match r with | .error m => .error m | .ok (pos, cs) => padP x pos ((cs ++ [0, 0]).take 3)
/-- what a clock's text tells -/
noncomputable def parseP (x : PySem.Str) : Except PySem.Str (List Int) := overP x (goP x 3 0 false [])
section
variable {x : PySem.Str} {pos c0 c1 c2 : Int} {cs : List Int}
theorem parseP_err {msg : PySem.Str} (h : goP x 3 0 false [] = .error msg) : parseP x = .error msg := by
  unfold parseP
  rw [h]
  rfl
theorem parseP_ok (h : goP x 3 0 false [] = .ok (pos, cs)) (hc : (cs ++ [0, 0]).take 3 = [c0, c1, c2]) : parseP x = tailP x pos c0 c1 c2 := by
  unfold parseP
  rw [h]
  show padP x pos ((cs ++ [0, 0]).take 3) = _
  rw [hc]
  rfl
theorem tail_end (h : ¬ pos < (x.length : Int)) : tailP x pos c0 c1 c2 = .ok [c0, c1, c2, 0] := if_neg h
theorem tail_mark (h : pos < (x.length : Int)) (hm : (occurrences (PySem.Str.ofString ".,") (Txt.item x pos) 0 (PySem.Str.length (PySem.Str.ofString ".,")) 1).isEmpty = true) : tailP x pos c0 c1 c2 = .error (PySem.Str.ofString "Invalid microsecond component") := (if_pos h).trans (if_pos hm)
theorem tail_digit (h : pos < (x.length : Int)) (hm : (occurrences (PySem.Str.ofString ".,") (Txt.item x pos) 0 (PySem.Str.length (PySem.Str.ofString ".,")) 1).isEmpty = false) (hd : (Txt.slice x (some (pos + 1)) none).cps.toList.all digQ = false) :
    tailP x pos c0 c1 c2 = .error (PySem.Str.ofString "Non-digit values in fraction") := (if_pos h).trans ((if_neg (by rw [hm]; decide)).trans (if_pos hd))
theorem tail_six (h : pos < (x.length : Int)) (hm : (occurrences (PySem.Str.ofString ".,") (Txt.item x pos) 0 (PySem.Str.length (PySem.Str.ofString ".,")) 1).isEmpty = false) (hd : (Txt.slice x (some (pos + 1)) none).cps.toList.all digQ = true) (h6 : 6 ≤ (x.length : Int) - (pos + 1)) :
    tailP x pos c0 c1 c2 = numP x c0 c1 c2 1 (Txt.slice x (some (pos + 1)) (some (pos + 1 + 6))) (PySem.intText? (Txt.slice x (some (pos + 1)) (some (pos + 1 + 6)))) := (if_pos h).trans ((if_neg (by rw [hm]; decide)).trans ((if_neg (by rw [hd]; decide)).trans (if_pos h6)))
theorem tail_few {rem : Int} (h : pos < (x.length : Int)) (hm : (occurrences (PySem.Str.ofString ".,") (Txt.item x pos) 0 (PySem.Str.length (PySem.Str.ofString ".,")) 1).isEmpty = false) (hd : (Txt.slice x (some (pos + 1)) none).cps.toList.all digQ = true) (h6 : ¬ 6 ≤ rem) (hr : rem = (x.length : Int) - (pos + 1)) :
    tailP x pos c0 c1 c2 = numP x c0 c1 c2 (fcP rem) (Txt.slice x (some (pos + 1)) (some (pos + 1 + rem))) (PySem.intText? (Txt.slice x (some (pos + 1)) (some (pos + 1 + rem)))) := by
  subst hr
  exact (if_pos h).trans ((if_neg (by rw [hm]; decide)).trans ((if_neg (by rw [hd]; decide)).trans (if_neg h6)))
end
theorem slice_zero {x : PySem.Str} {p : Int} (h0 : 0 ≤ p) : PySem.intText? (Txt.slice x (some p) (some (p + 0))) = none := by
  have hi : (strSliceIndices (some p) (some (p + 0)) 1 x.length).length = 0 := by
    unfold strSliceIndices sliceRange
    simp only [show (1 : Int) > 0 by decide, if_true, List.length_map, List.length_range]
    repeat' split
    all_goals (try simp only [Int.ediv_one])
    all_goals omega
  have e : Txt.slice x (some p) (some (p + 0)) = ⟨#[]⟩ := by
    unfold Txt.slice
    split
    · rename_i e
      have e2 : (strSliceIndices (some p) (some (p + 0)) 1 x.length).length = x.length := by simpa using e
      obtain ⟨a⟩ := x
      have e3 : a.size = 0 := e2.symm.trans hi
      rw [Array.eq_empty_of_size_eq_zero e3]
    · rw [List.eq_nil_of_length_eq_zero hi]
      rfl
  rw [e]
  decide +kernel
end Mine
end
section
open PySem PySem.W PyProof.Rows PySem.Calls
set_option maxRecDepth 100000
set_option maxHeartbeats 8000000
namespace Mine
theorem fc22 {w : World} {g : Heap} (X : (hd.heap_39 w.params).In g) : ∃ o : Obj, g.get? 22 = some o ∧ o.cls = .type "list" ∧ ∃ t1 t2 t3 t4 t5 c, o.data = .seq #[.int 100000 t1, .int 10000 t2, .int 1000 t3, .int 100 t4, .int 10 t5] c := by
  have h := X 22 _ (by k_is)
  exact ⟨_, h, rfl, _, _, _, _, _, _, rfl⟩
end Mine
end
section
open PySem PySem.W PyProof.Rows PySem.Calls
set_option maxRecDepth 100000
set_option pp.maxSteps 1500
set_option maxHeartbeats 8000000
set_option rowWalk.seconds 0
namespace Mine
local macro_rules | `(tactic| k_room) => `(tactic| ((try simp only [depth_under_make, depth_under_kw, depth_in1, depth_deeper, depth_caller]); first | decide | omega | (simp only [recursionLimit] at *; omega)))
local macro_rules | `(tactic| walk_at "my stop") => `(tactic| ((fail_if_success (with_reducible show wpAny _ _ (subscriptTail (Expr.Name _ _) (Expr.BinOp _ _ _ _) (Value.ref _) (Value.int _ _)) _ _ _)); (fail_if_success (with_reducible show wpAny _ _ (call (Value.ref _) _ _) _ _ _)); (fail_if_success (with_reducible show wpAny _ _ (binaryOp Operator.Mod (Value.str _ _) _) _ _ _)); (fail_if_success (with_reducible show wpAny _ _ (pyIter _) (fun it s₂ => codeC _ _ _ _ _) _ _)); skip))
local macro_rules | `(tactic| k_steps) => `(tactic| repeat' (first | (k_unfold; (try dsimp only)) | (k_end; wrow_close) | (walk_at "my stop"; walk1) | (walk_at "my stop"; dsimp only; walk1) | (leave1; walk_say "STEP leave1"; try dsimp only) | fail "no step"))
local macro_rules | `(tactic| walk_at "exec Raise some none") => `(tactic| (k_here; (with_reducible show wpAny _ _ (exec (Stmt.Raise (some (Expr.Call (Expr.Name ("ValueError" : Str) _) (_ :: _) [] _)) none _) _) _ _ _); (with_reducible rename Fr _ _ _ _ => kF); k_dflt (refine' Raise_madeB PySem.F.excCall_ValueError PySem.F.excRaise_ValueError ?hh ?_; (case hh => first | rfl | assumption); (refine' name_B kF ?k1 ?k2 ?k3 ?k4 ?k5 ?_; (case k1 => k_asm); (case k2 => k_asm); (case k3 => k_is); (case k4 => boot_by_name); (case k5 => decide); k_whole; refine ⟨rfl, ?_⟩))))
local macro_rules | `(tactic| walk_at "leaving ref") => `(tactic| (k_here; (refine' leave_raiseS ?k1 ?k0 ?k2 ?k3 ?_; (case k0 => first | assumption | exact Heap.MadeExc.of (by assumption)); (case k2 => assumption); (case k1 => assumption); (case k3 => k_asm); k_whole; intro h' t' S' K' U'; clear K'; (try dsimp only at S' U' ⊢))))
local macro_rules | `(tactic| walk_at "units") => `(tactic| ((try simp only [units_deeper, units_in1, units_caller, cLine_is]); first | decide | (simp only [cLine_is] at *; omega)))
local macro_rules | `(tactic| walk_at "compareOp NotIn") => `(tactic| (k_here; refine notIn01 (by assumption) (Fold.mono (fun p hp => ?k1) (by assumption)) (by k_mem) ?k2 ?_; (case k1 => first | exact hp | exact .tail _ hp | exact .tail _ (.tail _ hp)); (case k2 => walk_at "units")))
theorem allLt_memX {n : Nat} : ∀ {l : List (Addr × Obj)}, AllLt n l → ∀ p ∈ l, p.1 < n
  | [], _, _, h => nomatch h
  | _ :: _, x, p, h => by
    rcases List.mem_cons.mp h with rfl | h
    · exact x.1
    · exact allLt_memX x.2 p h
local macro_rules | `(tactic| k_all) => `(tactic| first | assumption | (refine List.forall_mem_cons.mpr ⟨?_, ?_⟩; k_ne; assumption))
theorem raisedS_sub {base G h : Heap} {l : List Env} {e t : Addr} {cls : Value} {vs : List Value} {nw nw' : List (Addr × Obj)} (R : RaisedS base G l e cls t vs nw h) (hs : ∀ p ∈ nw', p ∈ nw) : RaisedS base G l e cls t vs nw' h :=
  ⟨let ⟨B, a, b, c, d⟩ := R.1; ⟨B, a, b, fun q hq => c q (hs q hq), d⟩, R.2⟩
theorem map_butX {y : Str} {v : Option Value} {ys : List Str} {m m₀ : Str → Option Value} (h1 : m y = v) (h : ∀ z, z ∉ ys → m z = m₀ z) : m = fun z => if z = y then v else if z ∈ ys then m z else m₀ z := by
  funext z; by_cases hy : z = y
  · simp only [if_pos hy]; rw [hy]; exact h1
  · by_cases hz : z ∈ ys
    · simp only [if_neg hy, if_pos hz]
    · simp only [if_neg hy, if_neg hz]; exact h z hz
section
variable {w : World} {A A₀ : Around} {E : Value → Shared → Prop} {s : Shared} {L : Addr} {h₀ base : Heap} {m mg mb : Str → Option Value} {news : List (Addr × Obj)} {p : Program} {loose : List Str} {mean : ExcName → Option Value} {Q : Value → Shared → Prop} {env : Env} {outer : List Env}
theorem parse (B : Below A₀ base outer h₀) (F : Fr h₀ L s.heap m) (X : (hd.heap_39 w.params).In h₀) (N : News h₀ L s.heap news) (T : Top p loose mean mg mb h₀) (hA : A.frames = some (env :: outer)) (hf : env.frame = some L) (hke : env.scope.kind = .function)
  (hroom : A.depth + 20 < recursionLimit) (hh : A.handled = none) (hu : A.units + 20 < cLine) {x : Str} {t : Tok} (hx : x.length ≤ 100) (hcp : ∀ c ∈ x.cps.toList, c < 16 ^ 8)
  (hok : ∀ h' tk l (a b d f : Int) t1 t2 t3 t4 c, parseP x = .ok [a, b, d, f] → Fr h₀ L h' m → News h₀ L h' ((l, W.listOf #[.int a t1, .int b t2, .int d t3, .int f t4] c) :: news) → (∀ p ∈ news, @LT.lt Nat _ p.1 l) → Q (.ref l) { s with heap := h', toks := tk })
  (hbad : ∀ g h' e' t tk tk' (msg : Str), parseP x = .error msg → Fr h₀ L g m → RaisedS base g (env :: outer) e' (.type "ValueError") t [.str msg tk'] news h' → g.UpToSlots h' → E (.ref e') { s with heap := h', toks := tk }) :
  wpC (model PySem.Challenge.rw_km0086_08.row.prog w) A (call (.ref 29) [.str x t]) Q E s := by
  w_top off
  refine wpC_call ?_
  refine' codeC_def B F X N T hA hf hke ?k6 ?k7 ?k8 ?k9 ?kB ?_ ?c2 ?c3 ?c4 ?c5
  case k6 => k_is
  case k7 => k_is
  case k8 => k_room
  case k9 => exact BindsTo.of_eq rfl
  case kB => exact locs rfl
  case c2 => exact rfl
  case c3 => exact rfl
  case c4 => exact rfl
  case c5 => decide
  intro g' L' h' FG' F' N' B' X' T'
  have hltN := news_lt N'
  refine wpC_execs_cons (wpC_any ?_)
  (try dsimp only)
  k_steps
  refine wpC_execs_cons (wpC_any ?_)
  k_steps
  refine wpC_execs_cons (wpC_any ?_)
  k_steps
  refine wpC_execs_cons (wpC_For ?_)
  k_steps
  rename IsRange _ _ _ _ _ _ _ _ => R1
  (with_reducible rename Fr _ _ _ _ => F1)
  (with_reducible rename News _ _ _ _ => N1)
  refine nm1 N1 ?_
  intro lc e1
  subst e1
  have hD1 : ∀ p ∈ news, @LT.lt Nat _ p.1 lc := by assumption
  have hD : ∀ p ∈ news, p.1 ≠ lc := fun p hp => Nat.ne_of_lt (hD1 p hp)
  refine nmF F1 ?_
  intro m₀ em
  have hts : m₀ ("tstr" : Str) = some (.str x t) := by subst em; rfl
  obtain ⟨tl, hln⟩ : ∃ tl, m₀ ("len_str" : Str) = some (.int (x.length : Int) tl) := by subst em; exact ⟨_, rfl⟩
  have htc : m₀ ("time_comps" : Str) = some (.ref lc) := by subst em; rfl
  obtain ⟨tp0, hp0⟩ : ∃ tp, m₀ ("pos" : Str) = some (.int 0 tp) := by subst em; exact ⟨_, rfl⟩
  rw [← em] at F1
  clear em
  refine rangeCB 3 (fun i m nw => ∃ (c0 c1 c2 : Int) (t0 t1 t2 t3 : Tok) (c : Nat) (pos : Int) (tp : Tok) (sep : Bool), nw = (lc, W.listOf #[.int c0 t0, .int c1 t1, .int c2 t2, .int 0 t3] c) :: news ∧ m ("tstr" : Str) = some (.str x t) ∧ m ("len_str" : Str) = some (.int (x.length : Int) tl) ∧ m ("time_comps" : Str) = some (.ref lc) ∧ m ("pos" : Str) = some (.int pos tp) ∧
      (1 ≤ i → m ("has_sep" : Str) = some (.bool sep)) ∧ (i = 0 → c0 = 0) ∧ (i ≤ 1 → c1 = 0) ∧ (i ≤ 2 → c2 = 0) ∧ 0 ≤ pos ∧ pos ≤ 3 * i ∧ goP x 3 0 false [] = goP x (3 - i) pos sep ([c0, c1, c2].take i))
    (fun m nw => ∃ (c0 c1 c2 : Int) (t0 t1 t2 t3 : Tok) (c : Nat) (pos : Int) (tp : Tok) (cs : List Int), nw = (lc, W.listOf #[.int c0 t0, .int c1 t1, .int c2 t2, .int 0 t3] c) :: news ∧ m ("tstr" : Str) = some (.str x t) ∧ m ("len_str" : Str) = some (.int (x.length : Int) tl) ∧ m ("time_comps" : Str) = some (.ref lc) ∧ m ("pos" : Str) = some (.int pos tp) ∧
      0 ≤ pos ∧ pos ≤ 9 ∧ goP x 3 0 false [] = .ok (pos, cs) ∧ (cs ++ [0, 0]).take 3 = [c0, c1, c2]) rfl rfl hh R1 (by decide +kernel) (by decide +kernel) F1 N1 ?_ ?_ ?_ ?_ ?_
  · exact ⟨_, _, _, _, _, _, _, _, _, _, false, rfl, hts, hln, htc, hp0, fun h => absurd h (by decide), fun _ => rfl, fun _ => rfl, fun _ => rfl, by decide, by decide, rfl⟩
  · passes_own
  · rintro i ti m₁ nw h tk I oI hi ⟨c0, c1, c2, t0, t1, t2, t3, c, pos, tp, sep, rfl, hk1, hk2, hk3, hk4, hk5, hz0, hz1, hz2, hlo, hhi, hgo⟩ hoff F2 N2
    obtain ⟨zi, hzi⟩ : ∃ zi : Int, zi = 0 + (i : Int) * 1 := ⟨_, rfl⟩
    rw [← hzi] at F2
    have N3 := news_sub (nw' := (lc, W.listOf #[.int c0 t0, .int c1 t1, .int c2 t2, .int 0 t3] c) :: (I, oI) :: news) N2 (by refine List.forall_mem_cons.mpr ⟨.tail _ (.head _), List.forall_mem_cons.mpr ⟨.head _, fun p hp => .tail _ (.tail _ hp)⟩⟩)
    have hcI : @Ne Nat lc I := hoff _ (.head _)
    have hIn : ∀ p ∈ news, p.1 ≠ I := fun p hp => hoff p (.tail _ hp)
    have hlt' := news_lt N3
    simp only [AllLt] at hlt'
    clear F1 N1 N2 R1
    have hi' : i = 0 ∨ i = 1 ∨ i = 2 := by omega
    rcases hi' with rfl | rfl | rfl
    · obtain rfl : zi = 0 := hzi
      obtain rfl := hz0 rfl
      obtain rfl := hz1 (by decide)
      obtain rfl := hz2 (by decide)
      have em₁ := known4 hk4 hk1 hk2 hk3
      rw [em₁] at F2
      clear em₁ hk1 hk2 hk3 hk4 hk5
      refine wpC_execs_cons (wpC_any ?_)
      k_steps
      · (with_reducible rename RaisedS _ _ _ _ _ _ _ _ _ => R3)
        (with_reducible rename Heap.UpToSlots _ _ => U3)
        exact hbad _ _ _ _ _ _ _ (parseP_err (hgo.trans (goP_short (by assumption)))) FG' (raisedS_sub R3 (fun p hp => .tail _ (.tail _ hp))) U3
      · dsimp only
        rename ¬ (_ - pos < 2) => hlong
        refine wpC_execs_cons (wpC_Assign_Sub (wpC_Call_Name ?_))
        k_steps
        refine wpC_callWith_type ?_
        k_steps
        refine call_int_text (Nat.le_trans (slice_len _ _ _) (Nat.le_trans hx (by decide))) (fun c hc => hcp c (slice_cp hc)) hh (fun n hn => ?_) (fun hn h9 tk9 e9 t9 M9 => ?_)
        · k_steps
          dsimp only
          refine wpC_any ?_
          k_steps
          · rename (_ == _) = true => q1
            rename (_ != _) = true => q2
            unfold bne at q2
            rw [q1] at q2
            cases q2
          · rename (_ : Int) ≠ 0 => q3
            have hne : ¬ ((nextS x (pos + 2)).length = 0 ∨ (2 : Nat) = 0) := fun q => q.elim (fun e => q3 (congrArg Int.ofNat e)) (by decide)
            rename (_ == _) = true => q1
            rename (_ != _) = false => q2
            have hsp : sepP x 2 pos sep = true := q1
            have hon := goP_on (cs := []) (n := 2) (sep := sep) hlong hn hne (fun z => by have z2 := z.2; unfold nextS at z2; rw [q2] at z2; cases z2)
            (with_reducible rename Fr _ _ _ _ => FE)
            (with_reducible rename News _ _ _ _ => NE)
            dsimp only [JPostB]
            refine JEnd.intro ((lc, _) :: news) FE NE (.tail _ (.head _)) (List.forall_mem_cons.mpr ⟨.head _, fun p hp => .tail _ (.tail _ hp)⟩) (List.forall_mem_cons.mpr ⟨hcI, hIn⟩) ⟨n, 0, 0, _, _, _, _, _, _, _, sepP x 2 pos sep, rfl, rfl, rfl, rfl, rfl, fun _ => rfl, fun h => by first | rfl | exact absurd h (by decide), fun h => by first | rfl | exact absurd h (by decide), fun h => by first | rfl | exact absurd h (by decide), ?_, ?_, hgo.trans hon⟩
            all_goals (first | omega | (split <;> omega))
          · rename (_ : Int) ≠ 0 => q3
            have hne : ¬ ((nextS x (pos + 2)).length = 0 ∨ (2 : Nat) = 0) := fun q => q.elim (fun e => q3 (congrArg Int.ofNat e)) (by decide)
            rename (_ == _) = false => q1
            have hsp : sepP x 2 pos sep = false := q1
            have hon := goP_on (cs := []) (n := 2) (sep := sep) hlong hn hne (fun z => by rw [hsp] at z; cases z.1)
            (with_reducible rename Fr _ _ _ _ => FE)
            (with_reducible rename News _ _ _ _ => NE)
            dsimp only [JPostB]
            refine JEnd.intro ((lc, _) :: news) FE NE (.tail _ (.head _)) (List.forall_mem_cons.mpr ⟨.head _, fun p hp => .tail _ (.tail _ hp)⟩) (List.forall_mem_cons.mpr ⟨hcI, hIn⟩) ⟨n, 0, 0, _, _, _, _, _, _, _, sepP x 2 pos sep, rfl, rfl, rfl, rfl, rfl, fun _ => rfl, fun h => by first | rfl | exact absurd h (by decide), fun h => by first | rfl | exact absurd h (by decide), fun h => by first | rfl | exact absurd h (by decide), ?_, ?_, hgo.trans hon⟩
            all_goals (first | omega | (split <;> omega))
          · (with_reducible rename Fr _ _ _ _ => FE)
            (with_reducible rename News _ _ _ _ => NE)
            (try dsimp only)
            dsimp only [JPostB]
            refine ⟨_, _, _, (lc, _) :: news, rfl, FE, news_sub NE (List.forall_mem_cons.mpr ⟨.head _, fun p hp => .tail _ (.tail _ hp)⟩), n, 0, 0, _, _, _, _, _, _, _, [n], rfl, rfl, rfl, rfl, rfl, ?_, ?_, hgo.trans (goP_stop (cs := []) (n := 2) (sep := sep) hlong hn (Or.inl (Int.ofNat.inj (by assumption)))), rfl⟩
            all_goals omega
        · k_steps
          (with_reducible rename RaisedS _ _ _ _ _ _ _ _ _ => R3)
          (with_reducible rename Heap.UpToSlots _ _ => U3)
          exact hbad _ _ _ _ _ _ _ (parseP_err (hgo.trans (goP_bad hlong hn))) FG' (raisedS_sub R3 (fun p hp => .tail _ (.tail _ hp))) U3
    · obtain rfl : zi = 1 := hzi
      obtain rfl := hz1 (by decide)
      obtain rfl := hz2 (by decide)
      have hk6 := hk5 (by decide)
      have em₁ := known5 hk4 hk6 hk1 hk2 hk3
      rw [em₁] at F2
      clear em₁ hk1 hk2 hk3 hk4 hk5 hk6
      cases sep
      · refine wpC_execs_cons (wpC_any ?_)
        k_steps
        · (with_reducible rename RaisedS _ _ _ _ _ _ _ _ _ => R3)
          (with_reducible rename Heap.UpToSlots _ _ => U3)
          exact hbad _ _ _ _ _ _ _ (parseP_err (hgo.trans (goP_short (by assumption)))) FG' (raisedS_sub R3 (fun p hp => .tail _ (.tail _ hp))) U3
        · dsimp only
          rename ¬ (_ - pos < 2) => hlong
          refine wpC_execs_cons (wpC_Assign_Sub (wpC_Call_Name ?_))
          k_steps
          refine wpC_callWith_type ?_
          k_steps
          refine call_int_text (Nat.le_trans (slice_len _ _ _) (Nat.le_trans hx (by decide))) (fun c hc => hcp c (slice_cp hc)) hh (fun n hn => ?_) (fun hn h9 tk9 e9 t9 M9 => ?_)
          · k_steps
            dsimp only
            refine wpC_any ?_
            k_steps
            · rename (_ : Int) ≠ 0 => q3
              have hne : ¬ ((nextS x (pos + 2)).length = 0 ∨ (1 : Nat) = 0) := fun q => q.elim (fun e => q3 (congrArg Int.ofNat e)) (by decide)
              have hsp : sepP x 1 pos false = false := rfl
              have hon := goP_on (cs := [c0]) (n := 1) (sep := false) hlong hn hne (fun z => by cases z.1)
              rw [hsp] at hon
              (with_reducible rename Fr _ _ _ _ => FE)
              (with_reducible rename News _ _ _ _ => NE)
              dsimp only [JPostB]
              refine JEnd.intro ((lc, _) :: news) FE NE (.tail _ (.head _)) (List.forall_mem_cons.mpr ⟨.head _, fun p hp => .tail _ (.tail _ hp)⟩) (List.forall_mem_cons.mpr ⟨hcI, hIn⟩) ⟨c0, n, 0, _, _, _, _, _, _, _, false, rfl, rfl, rfl, rfl, rfl, fun _ => rfl, fun h => by first | rfl | exact absurd h (by decide), fun h => by first | rfl | exact absurd h (by decide), fun h => by first | rfl | exact absurd h (by decide), ?_, ?_, hgo.trans hon⟩
              all_goals (first | omega | (split <;> omega))
            · (with_reducible rename Fr _ _ _ _ => FE)
              (with_reducible rename News _ _ _ _ => NE)
              (try dsimp only)
              dsimp only [JPostB]
              refine ⟨_, _, _, (lc, _) :: news, rfl, FE, news_sub NE (List.forall_mem_cons.mpr ⟨.head _, fun p hp => .tail _ (.tail _ hp)⟩), c0, n, 0, _, _, _, _, _, _, _, [c0, n], rfl, rfl, rfl, rfl, rfl, ?_, ?_, hgo.trans (goP_stop (cs := [c0]) (n := 1) (sep := false) hlong hn (Or.inl (Int.ofNat.inj (by assumption)))), rfl⟩
              all_goals omega
          · k_steps
            (with_reducible rename RaisedS _ _ _ _ _ _ _ _ _ => R3)
            (with_reducible rename Heap.UpToSlots _ _ => U3)
            exact hbad _ _ _ _ _ _ _ (parseP_err (hgo.trans (goP_bad hlong hn))) FG' (raisedS_sub R3 (fun p hp => .tail _ (.tail _ hp))) U3
      · refine wpC_execs_cons (wpC_any ?_)
        k_steps
        · (with_reducible rename RaisedS _ _ _ _ _ _ _ _ _ => R3)
          (with_reducible rename Heap.UpToSlots _ _ => U3)
          exact hbad _ _ _ _ _ _ _ (parseP_err (hgo.trans (goP_short (by assumption)))) FG' (raisedS_sub R3 (fun p hp => .tail _ (.tail _ hp))) U3
        · dsimp only
          rename ¬ (_ - pos < 2) => hlong
          refine wpC_execs_cons (wpC_Assign_Sub (wpC_Call_Name ?_))
          k_steps
          refine wpC_callWith_type ?_
          k_steps
          refine call_int_text (Nat.le_trans (slice_len _ _ _) (Nat.le_trans hx (by decide))) (fun c hc => hcp c (slice_cp hc)) hh (fun n hn => ?_) (fun hn h9 tk9 e9 t9 M9 => ?_)
          · k_steps
            dsimp only
            refine wpC_any ?_
            k_steps
            · rename (_ : Int) ≠ 0 => q3
              rename (_ != _) = true => q2
              obtain ⟨ch, hch⟩ := next_one (x := x) (p := pos + 2) (by omega) (fun e => q3 (congrArg Int.ofNat e))
              have hne : ¬ ((nextS x (pos + 2)).length = 0 ∨ (1 : Nat) = 0) := fun q => q.elim (fun e => q3 (congrArg Int.ofNat e)) (by decide)
              have hse := goP_sep (cs := [c0]) (n := 1) (sep := true) hlong hn hne rfl q2
              rw [hch] at hse
              rw [show Txt.slice x (some (pos + 2)) (some (pos + 2 + 1)) = ⟨#[ch]⟩ from hch]
              refine mod_c fun t' k' => ?_
              k_steps
              (with_reducible rename RaisedS _ _ _ _ _ _ _ _ _ => R3)
              (with_reducible rename Heap.UpToSlots _ _ => U3)
              exact hbad _ _ _ _ _ _ _ (parseP_err (hgo.trans (hse))) FG' (raisedS_sub R3 (fun p hp => .tail _ (.tail _ hp))) U3
            · rename (_ : Int) ≠ 0 => q3
              have hne : ¬ ((nextS x (pos + 2)).length = 0 ∨ (1 : Nat) = 0) := fun q => q.elim (fun e => q3 (congrArg Int.ofNat e)) (by decide)
              rename (_ != _) = false => q2
              have hsp : sepP x 1 pos true = true := rfl
              have hon := goP_on (cs := [c0]) (n := 1) (sep := true) hlong hn hne (fun z => by have z2 := z.2; unfold nextS at z2; rw [q2] at z2; cases z2)
              rw [hsp] at hon
              (with_reducible rename Fr _ _ _ _ => FE)
              (with_reducible rename News _ _ _ _ => NE)
              dsimp only [JPostB]
              refine JEnd.intro ((lc, _) :: news) FE NE (.tail _ (.head _)) (List.forall_mem_cons.mpr ⟨.head _, fun p hp => .tail _ (.tail _ hp)⟩) (List.forall_mem_cons.mpr ⟨hcI, hIn⟩) ⟨c0, n, 0, _, _, _, _, _, _, _, true, rfl, rfl, rfl, rfl, rfl, fun _ => rfl, fun h => by first | rfl | exact absurd h (by decide), fun h => by first | rfl | exact absurd h (by decide), fun h => by first | rfl | exact absurd h (by decide), ?_, ?_, hgo.trans hon⟩
              all_goals (first | omega | (split <;> omega))
            · (with_reducible rename Fr _ _ _ _ => FE)
              (with_reducible rename News _ _ _ _ => NE)
              (try dsimp only)
              dsimp only [JPostB]
              refine ⟨_, _, _, (lc, _) :: news, rfl, FE, news_sub NE (List.forall_mem_cons.mpr ⟨.head _, fun p hp => .tail _ (.tail _ hp)⟩), c0, n, 0, _, _, _, _, _, _, _, [c0, n], rfl, rfl, rfl, rfl, rfl, ?_, ?_, hgo.trans (goP_stop (cs := [c0]) (n := 1) (sep := true) hlong hn (Or.inl (Int.ofNat.inj (by assumption)))), rfl⟩
              all_goals omega
          · k_steps
            (with_reducible rename RaisedS _ _ _ _ _ _ _ _ _ => R3)
            (with_reducible rename Heap.UpToSlots _ _ => U3)
            exact hbad _ _ _ _ _ _ _ (parseP_err (hgo.trans (goP_bad hlong hn))) FG' (raisedS_sub R3 (fun p hp => .tail _ (.tail _ hp))) U3
    · obtain rfl : zi = 2 := hzi
      obtain rfl := hz2 (by decide)
      have em₁ := known4 hk4 hk1 hk2 hk3
      rw [em₁] at F2
      clear em₁ hk1 hk2 hk3 hk4 hk5
      refine wpC_execs_cons (wpC_any ?_)
      k_steps
      · (with_reducible rename RaisedS _ _ _ _ _ _ _ _ _ => R3)
        (with_reducible rename Heap.UpToSlots _ _ => U3)
        exact hbad _ _ _ _ _ _ _ (parseP_err (hgo.trans (goP_short (by assumption)))) FG' (raisedS_sub R3 (fun p hp => .tail _ (.tail _ hp))) U3
      · dsimp only
        rename ¬ (_ - pos < 2) => hlong
        refine wpC_execs_cons (wpC_Assign_Sub (wpC_Call_Name ?_))
        k_steps
        refine wpC_callWith_type ?_
        k_steps
        refine call_int_text (Nat.le_trans (slice_len _ _ _) (Nat.le_trans hx (by decide))) (fun c hc => hcp c (slice_cp hc)) hh (fun n hn => ?_) (fun hn h9 tk9 e9 t9 M9 => ?_)
        · k_steps
          dsimp only
          refine wpC_any ?_
          k_steps
          · (with_reducible rename Fr _ _ _ _ => FE)
            (with_reducible rename News _ _ _ _ => NE)
            (try dsimp only)
            dsimp only [JPostB]
            refine ⟨_, _, _, (lc, _) :: news, rfl, FE, news_sub NE (List.forall_mem_cons.mpr ⟨.head _, fun p hp => .tail _ (.tail _ hp)⟩), c0, c1, n, _, _, _, _, _, _, _, [c0, c1, n], rfl, rfl, rfl, rfl, rfl, ?_, ?_, hgo.trans (goP_stop (cs := [c0, c1]) (n := 0) (sep := sep) hlong hn (Or.inr rfl)), rfl⟩
            all_goals omega
          · (with_reducible rename Fr _ _ _ _ => FE)
            (with_reducible rename News _ _ _ _ => NE)
            (try dsimp only)
            dsimp only [JPostB]
            refine ⟨_, _, _, (lc, _) :: news, rfl, FE, news_sub NE (List.forall_mem_cons.mpr ⟨.head _, fun p hp => .tail _ (.tail _ hp)⟩), c0, c1, n, _, _, _, _, _, _, _, [c0, c1, n], rfl, rfl, rfl, rfl, rfl, ?_, ?_, hgo.trans (goP_stop (cs := [c0, c1]) (n := 0) (sep := sep) hlong hn (Or.inr rfl)), rfl⟩
            all_goals omega
        · k_steps
          (with_reducible rename RaisedS _ _ _ _ _ _ _ _ _ => R3)
          (with_reducible rename Heap.UpToSlots _ _ => U3)
          exact hbad _ _ _ _ _ _ _ (parseP_err (hgo.trans (goP_bad hlong hn))) FG' (raisedS_sub R3 (fun p hp => .tail _ (.tail _ hp))) U3
  · rintro m nw ⟨c0, c1, c2, t0, t1, t2, t3, c, pos, tp, sep, rfl, hk1, hk2, hk3, hk4, hk5, hz0, hz1, hz2, hlo, hhi, hgo⟩
    exact ⟨c0, c1, c2, t0, t1, t2, t3, c, pos, tp, _, rfl, hk1, hk2, hk3, hk4, hlo, by omega, hgo, rfl⟩
  · rintro m' nw h tk ⟨c0, c1, c2, t0, t1, t2, t3, c, pos, tp, cs, rfl, hk1, hk2, hk3, hk4, hlo, hhi, hgo, hcs⟩ F2 N2
    have em₁ := known4 hk4 hk1 hk2 hk3
    rw [em₁] at F2
    clear em₁ hk1 hk2 hk3 hk4
    have hlt' := news_lt N2
    simp only [AllLt] at hlt'
    clear F1 N1 R1
    (try dsimp only)
    refine wpC_execs_cons (wpC_If ?_)
    k_steps
    all_goals (try dsimp only)
    all_goals (try simp only [if_true, Bool.false_eq_true, if_false])
    · rename (_ : Int) < _ => hpl
      refine wpC_execs_cons (wpC_If ?_)
      k_steps
      all_goals (try dsimp only)
      all_goals (try simp only [if_true, Bool.false_eq_true, if_false])
      · rename List.isEmpty _ = true => hmk
        refine wpC_execs_cons (wpC_any ?_)
        k_steps
        (with_reducible rename RaisedS _ _ _ _ _ _ _ _ _ => R3)
        (with_reducible rename Heap.UpToSlots _ _ => U3)
        exact hbad _ _ _ _ _ _ _ ((parseP_ok hgo hcs).trans (tail_mark hpl hmk)) FG' (raisedS_sub R3 (fun p hp => by first | exact .tail _ hp | exact .tail _ (.tail _ hp) | exact .tail _ (.tail _ (.tail _ hp)) | exact .tail _ (.tail _ (.tail _ (.tail _ hp))) | exact .tail _ (.tail _ (.tail _ (.tail _ (.tail _ hp)))))) U3
      · rename List.isEmpty _ = false => hmk
        refine wpC_execs_cons (wpC_any ?_)
        k_steps
        dsimp only
        refine wpC_execs_cons (wpC_any ?_)
        k_steps
        (with_reducible rename Fr _ _ _ _ => F3)
        (with_reducible rename News _ _ _ _ => N3)
        refine map_str F3 N3 fun h4 I4 F4 N4 ho4 => ?_
        dsimp only
        k_steps
        (with_reducible rename Fr _ _ _ _ => F5)
        (with_reducible rename News _ _ _ _ => N5)
        refine all_map B' F5 X' T' (Around.frames_deeper B'.stack) rfl rfl ?hr6 hh N5 (fun p hp => Nat.ne_of_lt (ho4 p hp)) fun h6 tk6 F6 N6 => ?_
        case hr6 =>
          have hr : A.depth + 1 + 10 < recursionLimit := by omega
          exact hr
        dsimp only
        k_steps
        · rename List.all _ _ = true => hdg
          dsimp only
          refine wpC_execs_cons (wpC_any ?_)
          k_steps
          dsimp only
          obtain ⟨rem, hrem⟩ : ∃ rem : Int, rem = (x.length : Int) - (pos + 1) := ⟨_, rfl⟩
          (with_reducible rename Fr _ _ _ _ => F7)
          rw [← hrem] at F7
          refine wpC_execs_cons (wpC_any ?_)
          k_steps
          all_goals dsimp only
          · refine wpC_execs_cons (wpC_Assign_Sub (wpC_Call_Name ?_))
            k_steps
            refine wpC_callWith_type ?_
            k_steps
            refine call_int_text (Nat.le_trans (slice_len _ _ _) (Nat.le_trans hx (by decide))) (fun c hc => hcp c (slice_cp hc)) hh (fun n hn => ?_) (fun hn h9 tk9 e9 t9 M9 => ?_)
            · k_steps
              dsimp only
              refine wpC_any ?_
              k_steps
              dsimp only
              refine wpC_execs_nil ?_
              dsimp only
              refine wpC_execs_cons (wpC_any ?_)
              k_steps
              (with_reducible rename Fr h₀ L _ m => FE)
              (with_reducible rename News h₀ L _ _ => NE)
              exact hok _ _ _ _ _ _ _ _ _ _ _ _ ((parseP_ok hgo hcs).trans ((tail_six hpl hmk hdg (by omega)).trans (show numP x c0 c1 c2 1 _ _ = .ok [c0, c1, c2, n] from by unfold numP; rw [hn]; dsimp only; rw [Int.mul_one]))) FE (news_sub NE (List.forall_mem_cons.mpr ⟨by first | exact .head _ | exact .tail _ (.head _) | exact .tail _ (.tail _ (.head _)) | exact .tail _ (.tail _ (.tail _ (.head _))) | exact .tail _ (.tail _ (.tail _ (.tail _ (.head _)))), fun p hp => by first | exact .tail _ hp | exact .tail _ (.tail _ hp) | exact .tail _ (.tail _ (.tail _ hp)) | exact .tail _ (.tail _ (.tail _ (.tail _ hp))) | exact .tail _ (.tail _ (.tail _ (.tail _ (.tail _ hp))))⟩)) hD1
            · k_steps
              (with_reducible rename RaisedS _ _ _ _ _ _ _ _ _ => R3)
              (with_reducible rename Heap.UpToSlots _ _ => U3)
              exact hbad _ _ _ _ _ _ _ ((parseP_ok hgo hcs).trans ((tail_six hpl hmk hdg (by omega)).trans (by unfold numP; rw [hn]))) FG' (raisedS_sub R3 (fun p hp => by first | exact .tail _ hp | exact .tail _ (.tail _ hp) | exact .tail _ (.tail _ (.tail _ hp)) | exact .tail _ (.tail _ (.tail _ (.tail _ hp))) | exact .tail _ (.tail _ (.tail _ (.tail _ (.tail _ hp)))))) U3
          · have hr6 : rem = 0 ∨ rem = 1 ∨ rem = 2 ∨ rem = 3 ∨ rem = 4 ∨ rem = 5 := by omega
            rcases hr6 with hr6 | hr6 | hr6 | hr6 | hr6 | hr6
            · (with_reducible rename Fr _ _ _ _ => F8)
              rw [hr6] at F8
              refine wpC_execs_cons (wpC_Assign_Sub (wpC_Call_Name ?_))
              k_steps
              refine wpC_callWith_type ?_
              k_steps
              refine call_int_text (Nat.le_trans (slice_len _ _ _) (Nat.le_trans hx (by decide))) (fun c hc => hcp c (slice_cp hc)) hh (fun n hn => ?_) (fun hn h9 tk9 e9 t9 M9 => ?_)
              · rw [slice_zero (by omega)] at hn
                cases hn
              · k_steps
                (with_reducible rename RaisedS _ _ _ _ _ _ _ _ _ => R3)
                (with_reducible rename Heap.UpToSlots _ _ => U3)
                exact hbad _ _ _ _ _ _ _ ((parseP_ok hgo hcs).trans ((tail_few hpl hmk hdg (by omega) hrem).trans (by rw [hr6]; unfold numP; rw [hn]))) FG' (raisedS_sub R3 (fun p hp => by first | exact .tail _ hp | exact .tail _ (.tail _ hp) | exact .tail _ (.tail _ (.tail _ hp)) | exact .tail _ (.tail _ (.tail _ (.tail _ hp))) | exact .tail _ (.tail _ (.tail _ (.tail _ (.tail _ hp)))))) U3
            · (with_reducible rename Fr _ _ _ _ => F8)
              rw [hr6] at F8
              refine wpC_execs_cons (wpC_Assign_Sub (wpC_Call_Name ?_))
              k_steps
              refine wpC_callWith_type ?_
              k_steps
              refine call_int_text (Nat.le_trans (slice_len _ _ _) (Nat.le_trans hx (by decide))) (fun c hc => hcp c (slice_cp hc)) hh (fun n hn => ?_) (fun hn h9 tk9 e9 t9 M9 => ?_)
              · k_steps
                dsimp only
                refine wpC_any ?_
                k_steps
                obtain ⟨oF, hF1, hF2, tF1, tF2, tF3, tF4, tF5, cF, hF3⟩ := fc22 X'
                (with_reducible rename Fr _ _ _ _ => FS)
                refine PyProof.Rows.item_list (x := .int 100000 tF1) ⟨oF, FS.keep _ _ hF1, hF2, cF, hF3⟩ (by decide) (by decide) rfl ?_ (by with_unfolding_all rfl) (by intro _; with_unfolding_all rfl)
                k_steps
                dsimp only
                refine wpC_execs_nil ?_
                dsimp only
                refine wpC_execs_cons (wpC_any ?_)
                k_steps
                (with_reducible rename Fr h₀ L _ m => FE)
                (with_reducible rename News h₀ L _ _ => NE)
                exact hok _ _ _ _ _ _ _ _ _ _ _ _ ((parseP_ok hgo hcs).trans ((tail_few hpl hmk hdg (by omega) hrem).trans (show numP x c0 c1 c2 (fcP rem) _ _ = .ok [c0, c1, c2, n * 100000] from by rw [hr6]; unfold numP; rw [hn]; rfl))) FE (news_sub NE (List.forall_mem_cons.mpr ⟨by first | exact .head _ | exact .tail _ (.head _) | exact .tail _ (.tail _ (.head _)) | exact .tail _ (.tail _ (.tail _ (.head _))) | exact .tail _ (.tail _ (.tail _ (.tail _ (.head _)))), fun p hp => by first | exact .tail _ hp | exact .tail _ (.tail _ hp) | exact .tail _ (.tail _ (.tail _ hp)) | exact .tail _ (.tail _ (.tail _ (.tail _ hp))) | exact .tail _ (.tail _ (.tail _ (.tail _ (.tail _ hp))))⟩)) hD1
              · k_steps
                (with_reducible rename RaisedS _ _ _ _ _ _ _ _ _ => R3)
                (with_reducible rename Heap.UpToSlots _ _ => U3)
                exact hbad _ _ _ _ _ _ _ ((parseP_ok hgo hcs).trans ((tail_few hpl hmk hdg (by omega) hrem).trans (by rw [hr6]; unfold numP; rw [hn]))) FG' (raisedS_sub R3 (fun p hp => by first | exact .tail _ hp | exact .tail _ (.tail _ hp) | exact .tail _ (.tail _ (.tail _ hp)) | exact .tail _ (.tail _ (.tail _ (.tail _ hp))) | exact .tail _ (.tail _ (.tail _ (.tail _ (.tail _ hp)))))) U3
            · (with_reducible rename Fr _ _ _ _ => F8)
              rw [hr6] at F8
              refine wpC_execs_cons (wpC_Assign_Sub (wpC_Call_Name ?_))
              k_steps
              refine wpC_callWith_type ?_
              k_steps
              refine call_int_text (Nat.le_trans (slice_len _ _ _) (Nat.le_trans hx (by decide))) (fun c hc => hcp c (slice_cp hc)) hh (fun n hn => ?_) (fun hn h9 tk9 e9 t9 M9 => ?_)
              · k_steps
                dsimp only
                refine wpC_any ?_
                k_steps
                obtain ⟨oF, hF1, hF2, tF1, tF2, tF3, tF4, tF5, cF, hF3⟩ := fc22 X'
                (with_reducible rename Fr _ _ _ _ => FS)
                refine PyProof.Rows.item_list (x := .int 10000 tF2) ⟨oF, FS.keep _ _ hF1, hF2, cF, hF3⟩ (by decide) (by decide) rfl ?_ (by with_unfolding_all rfl) (by intro _; with_unfolding_all rfl)
                k_steps
                dsimp only
                refine wpC_execs_nil ?_
                dsimp only
                refine wpC_execs_cons (wpC_any ?_)
                k_steps
                (with_reducible rename Fr h₀ L _ m => FE)
                (with_reducible rename News h₀ L _ _ => NE)
                exact hok _ _ _ _ _ _ _ _ _ _ _ _ ((parseP_ok hgo hcs).trans ((tail_few hpl hmk hdg (by omega) hrem).trans (show numP x c0 c1 c2 (fcP rem) _ _ = .ok [c0, c1, c2, n * 10000] from by rw [hr6]; unfold numP; rw [hn]; rfl))) FE (news_sub NE (List.forall_mem_cons.mpr ⟨by first | exact .head _ | exact .tail _ (.head _) | exact .tail _ (.tail _ (.head _)) | exact .tail _ (.tail _ (.tail _ (.head _))) | exact .tail _ (.tail _ (.tail _ (.tail _ (.head _)))), fun p hp => by first | exact .tail _ hp | exact .tail _ (.tail _ hp) | exact .tail _ (.tail _ (.tail _ hp)) | exact .tail _ (.tail _ (.tail _ (.tail _ hp))) | exact .tail _ (.tail _ (.tail _ (.tail _ (.tail _ hp))))⟩)) hD1
              · k_steps
                (with_reducible rename RaisedS _ _ _ _ _ _ _ _ _ => R3)
                (with_reducible rename Heap.UpToSlots _ _ => U3)
                exact hbad _ _ _ _ _ _ _ ((parseP_ok hgo hcs).trans ((tail_few hpl hmk hdg (by omega) hrem).trans (by rw [hr6]; unfold numP; rw [hn]))) FG' (raisedS_sub R3 (fun p hp => by first | exact .tail _ hp | exact .tail _ (.tail _ hp) | exact .tail _ (.tail _ (.tail _ hp)) | exact .tail _ (.tail _ (.tail _ (.tail _ hp))) | exact .tail _ (.tail _ (.tail _ (.tail _ (.tail _ hp)))))) U3
            · (with_reducible rename Fr _ _ _ _ => F8)
              rw [hr6] at F8
              refine wpC_execs_cons (wpC_Assign_Sub (wpC_Call_Name ?_))
              k_steps
              refine wpC_callWith_type ?_
              k_steps
              refine call_int_text (Nat.le_trans (slice_len _ _ _) (Nat.le_trans hx (by decide))) (fun c hc => hcp c (slice_cp hc)) hh (fun n hn => ?_) (fun hn h9 tk9 e9 t9 M9 => ?_)
              · k_steps
                dsimp only
                refine wpC_any ?_
                k_steps
                obtain ⟨oF, hF1, hF2, tF1, tF2, tF3, tF4, tF5, cF, hF3⟩ := fc22 X'
                (with_reducible rename Fr _ _ _ _ => FS)
                refine PyProof.Rows.item_list (x := .int 1000 tF3) ⟨oF, FS.keep _ _ hF1, hF2, cF, hF3⟩ (by decide) (by decide) rfl ?_ (by with_unfolding_all rfl) (by intro _; with_unfolding_all rfl)
                k_steps
                dsimp only
                refine wpC_execs_nil ?_
                dsimp only
                refine wpC_execs_cons (wpC_any ?_)
                k_steps
                (with_reducible rename Fr h₀ L _ m => FE)
                (with_reducible rename News h₀ L _ _ => NE)
                exact hok _ _ _ _ _ _ _ _ _ _ _ _ ((parseP_ok hgo hcs).trans ((tail_few hpl hmk hdg (by omega) hrem).trans (show numP x c0 c1 c2 (fcP rem) _ _ = .ok [c0, c1, c2, n * 1000] from by rw [hr6]; unfold numP; rw [hn]; rfl))) FE (news_sub NE (List.forall_mem_cons.mpr ⟨by first | exact .head _ | exact .tail _ (.head _) | exact .tail _ (.tail _ (.head _)) | exact .tail _ (.tail _ (.tail _ (.head _))) | exact .tail _ (.tail _ (.tail _ (.tail _ (.head _)))), fun p hp => by first | exact .tail _ hp | exact .tail _ (.tail _ hp) | exact .tail _ (.tail _ (.tail _ hp)) | exact .tail _ (.tail _ (.tail _ (.tail _ hp))) | exact .tail _ (.tail _ (.tail _ (.tail _ (.tail _ hp))))⟩)) hD1
              · k_steps
                (with_reducible rename RaisedS _ _ _ _ _ _ _ _ _ => R3)
                (with_reducible rename Heap.UpToSlots _ _ => U3)
                exact hbad _ _ _ _ _ _ _ ((parseP_ok hgo hcs).trans ((tail_few hpl hmk hdg (by omega) hrem).trans (by rw [hr6]; unfold numP; rw [hn]))) FG' (raisedS_sub R3 (fun p hp => by first | exact .tail _ hp | exact .tail _ (.tail _ hp) | exact .tail _ (.tail _ (.tail _ hp)) | exact .tail _ (.tail _ (.tail _ (.tail _ hp))) | exact .tail _ (.tail _ (.tail _ (.tail _ (.tail _ hp)))))) U3
            · (with_reducible rename Fr _ _ _ _ => F8)
              rw [hr6] at F8
              refine wpC_execs_cons (wpC_Assign_Sub (wpC_Call_Name ?_))
              k_steps
              refine wpC_callWith_type ?_
              k_steps
              refine call_int_text (Nat.le_trans (slice_len _ _ _) (Nat.le_trans hx (by decide))) (fun c hc => hcp c (slice_cp hc)) hh (fun n hn => ?_) (fun hn h9 tk9 e9 t9 M9 => ?_)
              · k_steps
                dsimp only
                refine wpC_any ?_
                k_steps
                obtain ⟨oF, hF1, hF2, tF1, tF2, tF3, tF4, tF5, cF, hF3⟩ := fc22 X'
                (with_reducible rename Fr _ _ _ _ => FS)
                refine PyProof.Rows.item_list (x := .int 100 tF4) ⟨oF, FS.keep _ _ hF1, hF2, cF, hF3⟩ (by decide) (by decide) rfl ?_ (by with_unfolding_all rfl) (by intro _; with_unfolding_all rfl)
                k_steps
                dsimp only
                refine wpC_execs_nil ?_
                dsimp only
                refine wpC_execs_cons (wpC_any ?_)
                k_steps
                (with_reducible rename Fr h₀ L _ m => FE)
                (with_reducible rename News h₀ L _ _ => NE)
                exact hok _ _ _ _ _ _ _ _ _ _ _ _ ((parseP_ok hgo hcs).trans ((tail_few hpl hmk hdg (by omega) hrem).trans (show numP x c0 c1 c2 (fcP rem) _ _ = .ok [c0, c1, c2, n * 100] from by rw [hr6]; unfold numP; rw [hn]; rfl))) FE (news_sub NE (List.forall_mem_cons.mpr ⟨by first | exact .head _ | exact .tail _ (.head _) | exact .tail _ (.tail _ (.head _)) | exact .tail _ (.tail _ (.tail _ (.head _))) | exact .tail _ (.tail _ (.tail _ (.tail _ (.head _)))), fun p hp => by first | exact .tail _ hp | exact .tail _ (.tail _ hp) | exact .tail _ (.tail _ (.tail _ hp)) | exact .tail _ (.tail _ (.tail _ (.tail _ hp))) | exact .tail _ (.tail _ (.tail _ (.tail _ (.tail _ hp))))⟩)) hD1
              · k_steps
                (with_reducible rename RaisedS _ _ _ _ _ _ _ _ _ => R3)
                (with_reducible rename Heap.UpToSlots _ _ => U3)
                exact hbad _ _ _ _ _ _ _ ((parseP_ok hgo hcs).trans ((tail_few hpl hmk hdg (by omega) hrem).trans (by rw [hr6]; unfold numP; rw [hn]))) FG' (raisedS_sub R3 (fun p hp => by first | exact .tail _ hp | exact .tail _ (.tail _ hp) | exact .tail _ (.tail _ (.tail _ hp)) | exact .tail _ (.tail _ (.tail _ (.tail _ hp))) | exact .tail _ (.tail _ (.tail _ (.tail _ (.tail _ hp)))))) U3
            · (with_reducible rename Fr _ _ _ _ => F8)
              rw [hr6] at F8
              refine wpC_execs_cons (wpC_Assign_Sub (wpC_Call_Name ?_))
              k_steps
              refine wpC_callWith_type ?_
              k_steps
              refine call_int_text (Nat.le_trans (slice_len _ _ _) (Nat.le_trans hx (by decide))) (fun c hc => hcp c (slice_cp hc)) hh (fun n hn => ?_) (fun hn h9 tk9 e9 t9 M9 => ?_)
              · k_steps
                dsimp only
                refine wpC_any ?_
                k_steps
                obtain ⟨oF, hF1, hF2, tF1, tF2, tF3, tF4, tF5, cF, hF3⟩ := fc22 X'
                (with_reducible rename Fr _ _ _ _ => FS)
                refine PyProof.Rows.item_list (x := .int 10 tF5) ⟨oF, FS.keep _ _ hF1, hF2, cF, hF3⟩ (by decide) (by decide) rfl ?_ (by with_unfolding_all rfl) (by intro _; with_unfolding_all rfl)
                k_steps
                dsimp only
                refine wpC_execs_nil ?_
                dsimp only
                refine wpC_execs_cons (wpC_any ?_)
                k_steps
                (with_reducible rename Fr h₀ L _ m => FE)
                (with_reducible rename News h₀ L _ _ => NE)
                exact hok _ _ _ _ _ _ _ _ _ _ _ _ ((parseP_ok hgo hcs).trans ((tail_few hpl hmk hdg (by omega) hrem).trans (show numP x c0 c1 c2 (fcP rem) _ _ = .ok [c0, c1, c2, n * 10] from by rw [hr6]; unfold numP; rw [hn]; rfl))) FE (news_sub NE (List.forall_mem_cons.mpr ⟨by first | exact .head _ | exact .tail _ (.head _) | exact .tail _ (.tail _ (.head _)) | exact .tail _ (.tail _ (.tail _ (.head _))) | exact .tail _ (.tail _ (.tail _ (.tail _ (.head _)))), fun p hp => by first | exact .tail _ hp | exact .tail _ (.tail _ hp) | exact .tail _ (.tail _ (.tail _ hp)) | exact .tail _ (.tail _ (.tail _ (.tail _ hp))) | exact .tail _ (.tail _ (.tail _ (.tail _ (.tail _ hp))))⟩)) hD1
              · k_steps
                (with_reducible rename RaisedS _ _ _ _ _ _ _ _ _ => R3)
                (with_reducible rename Heap.UpToSlots _ _ => U3)
                exact hbad _ _ _ _ _ _ _ ((parseP_ok hgo hcs).trans ((tail_few hpl hmk hdg (by omega) hrem).trans (by rw [hr6]; unfold numP; rw [hn]))) FG' (raisedS_sub R3 (fun p hp => by first | exact .tail _ hp | exact .tail _ (.tail _ hp) | exact .tail _ (.tail _ (.tail _ hp)) | exact .tail _ (.tail _ (.tail _ (.tail _ hp))) | exact .tail _ (.tail _ (.tail _ (.tail _ (.tail _ hp)))))) U3
        · rename List.all _ _ = false => hdg
          (with_reducible rename RaisedS _ _ _ _ _ _ _ _ _ => R3)
          (with_reducible rename Heap.UpToSlots _ _ => U3)
          exact hbad _ _ _ _ _ _ _ ((parseP_ok hgo hcs).trans (tail_digit hpl hmk hdg)) FG' (raisedS_sub R3 (fun p hp => by first | exact .tail _ hp | exact .tail _ (.tail _ hp) | exact .tail _ (.tail _ (.tail _ hp)) | exact .tail _ (.tail _ (.tail _ (.tail _ hp))) | exact .tail _ (.tail _ (.tail _ (.tail _ (.tail _ hp)))))) U3
    · rename ¬ (_ : Int) < _ => hpl
      refine wpC_execs_nil ?_
      dsimp only
      refine wpC_execs_cons (wpC_any ?_)
      k_steps
      (with_reducible rename Fr h₀ L _ m => FE)
      (with_reducible rename News h₀ L _ _ => NE)
      exact hok _ _ _ _ _ _ _ _ _ _ _ _ ((parseP_ok hgo hcs).trans (tail_end hpl)) FE (news_sub NE (List.forall_mem_cons.mpr ⟨by first | exact .head _ | exact .tail _ (.head _) | exact .tail _ (.tail _ (.head _)) | exact .tail _ (.tail _ (.tail _ (.head _))) | exact .tail _ (.tail _ (.tail _ (.tail _ (.head _)))), fun p hp => by first | exact .tail _ hp | exact .tail _ (.tail _ hp) | exact .tail _ (.tail _ (.tail _ hp)) | exact .tail _ (.tail _ (.tail _ (.tail _ hp))) | exact .tail _ (.tail _ (.tail _ (.tail _ (.tail _ hp))))⟩)) hD1
end
end Mine
end
section
open PySem PySem.W PyProof.Rows PySem.Calls
set_option maxRecDepth 100000
namespace Mine
section
variable {prog : Program} {w : World} {A : Around} {E : Value → Shared → Prop} {s : Shared} {h₀ : Heap} {L t : Addr} {m : Str → Option Value} {news : List (Addr × Obj)}
/-- the sum of a list of ints of the ledger, of any length and size -/
theorem sum_led {items : Array Value} {c : Nat} {ns : List Int} {Q : Value → Shared → Prop} (hh : A.handled = none) (F : Fr h₀ L s.heap m) (N : News h₀ L s.heap news) (hm : (t, W.listOf items c) ∈ news) (hi : IntsAre items.toList ns)
    (h : ∀ h' tk t', Fr h₀ L h' m → News h₀ L h' news → Q (.int ns.sum t') { s with heap := h', toks := tk }) :
    wpAny (model prog w) A (call (.builtin "sum") [.ref t]) Q E s := by
  have hl : s.heap.IsList t items := ⟨_, (N _ hm).1, rfl, c, rfl⟩
  have ha : AllInts items := by have := hi.allInts; simpa using this
  obtain ⟨xs, hx⟩ := ha.items
  have hn : numsOf items.toList = ns := hi.numsOf
  rw [hx] at hl hn
  rw [nums_intItems] at hn
  refine sum_intListG hh hl fun h' tk t' hk => ?_
  have := h h' tk t' (F.keeps hk) (N.grown hk)
  rw [preSum_eq, List.take_of_length_le (by simp), hn]
  exact this
end
theorem news_uniq {h₀ h : Heap} {L a : Addr} {o o' : Obj} {nw : List (Addr × Obj)} (N : News h₀ L h nw) (h1 : (a, o) ∈ nw) (h2 : (a, o') ∈ nw) : o = o' :=
  Option.some.inj ((N _ h1).1.symm.trans (N _ h2).1)
theorem listOf_inj {a b : Array Value} {c d : Nat} (h : W.listOf a c = W.listOf b d) : a = b := by
  simp only [W.listOf, Obj.mk.injEq, Data.seq.injEq] at h
  exact h.2.2.1.1
theorem ints5 {vs : List Value} {a b c d e : Int} (h : IntsAre vs [a, b, c, d, e]) : ∃ t1 t2 t3 t4 t5, vs = [.int a t1, .int b t2, .int c t3, .int d t4, .int e t5] := by
  obtain ⟨t1, v1, e1, h1⟩ := h.cons_inv
  obtain ⟨t2, v2, e2, h2⟩ := h1.cons_inv
  obtain ⟨t3, v3, e3, h3⟩ := h2.cons_inv
  obtain ⟨t4, v4, e4, h4⟩ := h3.cons_inv
  obtain ⟨t5, v5, e5, h5⟩ := h4.cons_inv
  have e6 := h5.nil_inv
  subst e6 e5 e4 e3 e2 e1
  exact ⟨_, _, _, _, _, rfl⟩
theorem ints6 {vs : List Value} {a b c d e f : Int} (h : IntsAre vs [a, b, c, d, e, f]) : ∃ t1 t2 t3 t4 t5 t6, vs = [.int a t1, .int b t2, .int c t3, .int d t4, .int e t5, .int f t6] := by
  obtain ⟨t1, v1, e1, h1⟩ := h.cons_inv
  obtain ⟨t2, t3, t4, t5, t6, e2⟩ := ints5 h1
  subst e2 e1
  exact ⟨_, _, _, _, _, _, rfl⟩
theorem len6 {ns : List Int} (h : ns.length = 6) : ∃ a b c d e f, ns = [a, b, c, d, e, f] := by
  rcases ns with _ | ⟨a, _ | ⟨b, _ | ⟨c, _ | ⟨d, _ | ⟨e, _ | ⟨f, _ | ⟨g, r⟩⟩⟩⟩⟩⟩⟩ <;> simp only [List.length_cons, List.length_nil] at h <;> first | omega | exact ⟨_, _, _, _, _, _, rfl⟩
theorem len5 {ns : List Int} (h : ns.length = 5) : ∃ a b c d e, ns = [a, b, c, d, e] := by
  rcases ns with _ | ⟨a, _ | ⟨b, _ | ⟨c, _ | ⟨d, _ | ⟨e, _ | ⟨f, r⟩⟩⟩⟩⟩⟩ <;> simp only [List.length_cons, List.length_nil] at h <;> first | omega | exact ⟨_, _, _, _, _, rfl⟩
theorem led_split {h₀ h : Heap} {L t : Addr} {o : Obj} {nw : List (Addr × Obj)} (N : News h₀ L h nw) (hm : (t, o) ∈ nw) : ∃ rest, News h₀ L h ((t, o) :: rest) ∧ (∀ p ∈ rest, p.1 ≠ t) ∧ (∀ p ∈ nw, p.1 ≠ t → p ∈ rest) :=
  ⟨nw.filter fun p => decide (p.1 ≠ t), fun p hp => by
    rcases List.mem_cons.mp hp with rfl | hp
    · exact N _ hm
    · exact N _ (List.mem_filter.mp hp).1, fun p hp => of_decide_eq_true (List.mem_filter.mp hp).2, fun p hp hq => List.mem_filter.mpr ⟨hp, decide_eq_true hq⟩⟩
section
open PySem.SeqAt
variable {prog : Program} {w : World} {A : Around} {E : Value → Shared → Prop} {s : Shared} {h₀ : Heap} {L : Addr} {m : Str → Option Value} {news : List (Addr × Obj)}
theorem isStrOf_at (k : Str) : ∀ {vs : List Value} {ys : List Str}, StrsAre vs ys → ∀ (j : Nat) (h1 : j < vs.length) (h2 : j < ys.length), isStrOf k vs[j] = (ys[j] == k)
  | _, _, .cons n t _, 0, _, _ => rfl
  | _, _, .cons n t r, j + 1, h1, h2 => isStrOf_at k r j (Nat.lt_of_succ_lt_succ h1) (Nat.lt_of_succ_lt_succ h2)
theorem strsLen : ∀ {vs : List Value} {ys : List Str}, StrsAre vs ys → vs.length = ys.length
  | _, _, .nil => rfl
  | _, _, .cons _ _ r => by simp [strsLen r]
/-- the place of a text in a list of texts -/
theorem index_list_strs {l : Addr} {vs : List Value} {ys : List Str} {k : Str} {t : Tok} {Q : Value → Shared → Prop} (j : Nat) (hl : s.heap.IsList l vs.toArray) (hi : StrsAre vs ys)
    (hsz : vs.length ≤ 1000) (hk : ys[j]? = some k) (hno : (ys.take j).all (fun y => !(y == k)) = true) (h : Q (.int (j : Nat) s.toks) { s with toks := s.toks + 1 }) :
    wpAny (model prog w) A (call (.builtin "list.index") [.ref l, .str k t]) Q E s := by
  obtain ⟨⟨cls, dd, data, sl⟩, ho, hc, n, hd⟩ := id hl
  simp only at hc hd
  subst hc hd
  have hlen := strsLen hi
  obtain ⟨hj, hjk⟩ := List.getElem?_eq_some_iff.mp hk
  refine call_meets PySem.F.slot_list_index ⟨_, ho, rfl⟩ PySem.F.entry_list_index (PySem.F.args_list_index_2 _ _)
    (list_indexAt l vs.toArray n dd sl (.str k t) (isStrOf k) j (by simpa [hlen] using hj) (by omega) ?_ ?_) ⟨ho, fun y hy => (eq_isStrOf k t hi y (by simpa using hy)).at _ _, h⟩
  · show isStrOf k vs[j] = true
    rw [isStrOf_at k hi _ (by omega) hj, hjk]; simp
  · intro i his hlt
    show isStrOf k vs[i] = false
    rw [isStrOf_at k hi i (by simpa using his) (by omega)]
    have := List.all_eq_true.mp hno (ys[i]'(by omega)) (by
      rw [List.mem_take_iff_getElem]
      exact ⟨i, by omega, rfl⟩)
    simpa using this
theorem len_got2 {nA : List (Addr × Obj)} {e t : Addr} {cls v1 v2 : Value} {Q : Value → Shared → Prop} (N : News h₀ L s.heap nA) (G : Got nA e t cls [v1, v2]) (h : Q (.int 2 (s.toks + 1)) { s with toks := s.toks + 1 + 1 }) :
    wpAny (model prog w) A (call (.builtin "len") [.ref t]) Q E s := len_tuple (Got.isTup N G) (by simp) h
end
end Mine
end
section
open PySem PySem.W PyProof.Rows PySem.Calls
set_option maxRecDepth 100000
set_option pp.maxSteps 1500
set_option maxHeartbeats 8000000
set_option rowWalk.seconds 0
namespace Mine
local macro_rules | `(tactic| k_room) => `(tactic| ((try simp only [depth_under_make, depth_under_kw, depth_in1, depth_deeper, depth_caller]); first | decide | omega | (simp only [recursionLimit] at *; omega)))
local macro_rules | `(tactic| walk_at "my stop") => `(tactic| ((fail_if_success (with_reducible show wpAny _ _ (pyIter _) (fun it s₂ => LoopAtV _ _ _ _ _ _ _ _ _ it s₂) _ _)); (fail_if_success (with_reducible show wpAny _ _ (call (Value.ref _) _ _) _ _ _)); (fail_if_success (with_reducible show wpAny _ _ (call (Value.builtin "divmod") _ _) _ _ _)); skip))
local macro_rules | `(tactic| k_steps) => `(tactic| repeat' (first | (k_unfold; (try dsimp only)) | (k_end; wrow_close) | (walk_at "my stop"; walk1) | (walk_at "my stop"; dsimp only; walk1) | (leave1; walk_say "STEP leave1"; try dsimp only) | fail "no step"))
local macro_rules | `(tactic| walk_at "mem tail") => `(tactic| (intro p hp; repeat (first | exact hp | refine List.Mem.tail _ ?_)))
local macro_rules | `(tactic| walk_at "mem all") => `(tactic| repeat' (first | exact List.forall_mem_nil _ | (refine List.forall_mem_cons.mpr ⟨?_, ?_⟩) | k_mem | walk_at "mem tail"))
local macro_rules | `(tactic| walk_at "off all") => `(tactic| repeat' (first | exact List.forall_mem_nil _ | (refine List.forall_mem_cons.mpr ⟨?_, ?_⟩) | k_ne))
local macro_rules | `(tactic| k_all) => `(tactic| (repeat (refine List.forall_mem_cons.mpr ⟨by k_ne, ?_⟩)); first | assumption | exact List.forall_mem_nil _)
local macro_rules | `(tactic| walk_at "assign Tuple") => `(tactic| (k_here; (with_reducible show wpAny _ _ (assign (Expr.Tuple _ _ _) _ (Value.ref _)) _ _ _); (refine' unpackN_ ?k1 ?k2 ?k3 ?k4 ?k5 ?k6 ?_; (case k1 => k_asm); (case k2 => k_asm); (case k3 => kun_tup); (case k4 => first | rfl | assumption); (case k5 => exact rfl); (case k6 => exact rfl); k_whole); intro h' F' N'; (try k_sweep)))
def dgs : Int → List Int → List Int
  | _, [] => []
  | n, b :: bs => (n % b) :: dgs (n / b) bs
def rst : Int → List Int → Int
  | n, [] => n
  | n, b :: bs => rst (n / b) bs
theorem dgs_snoc {b : Int} : ∀ {n : Int} {l : List Int}, dgs n (l ++ [b]) = dgs n l ++ [rst n l % b]
  | _, [] => rfl
  | _, _ :: _ => congrArg _ dgs_snoc
theorem rst_snoc {b : Int} : ∀ {n : Int} {l : List Int}, rst n (l ++ [b]) = rst n l / b
  | _, [] => rfl
  | n, c :: l => rst_snoc (n := n / c) (l := l)
theorem dgs_len : ∀ {n : Int} {l : List Int}, (dgs n l).length = l.length
  | _, [] => rfl
  | _, _ :: _ => congrArg (· + 1) dgs_len
def bl8 : List Int := [8, 9, 100, 100, 100, 1000000000]
section
variable {w : World} {A A₀ : Around} {E : Value → Shared → Prop} {s : Shared} {L : Addr} {h₀ base : Heap} {m mg mb : Str → Option Value} {news : List (Addr × Obj)} {p : Program} {loose : List Str} {mean : ExcName → Option Value} {Q : Value → Shared → Prop} {env : Env} {outer : List Env}
theorem digits (B : Below A₀ base outer h₀) (F : Fr h₀ L s.heap m) (X : (hd.heap_39 w.params).In h₀) (N : News h₀ L s.heap news) (T : Top p loose mean mg mb h₀) (hA : A.frames = some (env :: outer)) (hf : env.frame = some L) (hke : env.scope.kind = .function)
  (hroom : A.depth + 20 < recursionLimit) (hh : A.handled = none) (hu : A.units + 20 < cLine) {n : Int} {t : Tok} {lb : Addr} {cb : Nat} {u1 u2 u3 u4 u5 u6 : Tok} (h0 : 0 ≤ n) (hlb : (lb, W.listOf #[.int 8 u1, .int 9 u2, .int 100 u3, .int 100 u4, .int 100 u5, .int 1000000000 u6] cb) ∈ news)
  (hok : ∀ h' tk l its c, IntsAre its.toList (dgs n bl8) → Fr h₀ L h' m → News h₀ L h' ((l, W.listOf its c) :: news) → (∀ p ∈ news, @LT.lt Nat _ p.1 l) → Q (.ref l) { s with heap := h', toks := tk }) :
  wpAny (model PySem.Challenge.rw_km0086_08.row.prog w) A (call (.ref 36) [.int n t, .ref lb]) Q E s := by
  w_top off
  refine wpAny_call ?_
  refine' code_def B F X N T hA hf hke ?k6 ?k7 ?k8 ?k9 ?kB ?_ ?c2 ?c3 ?c4 ?c5
  case k6 => k_is
  case k7 => k_is
  case k8 => k_room
  case k9 => exact BindsTo.of_eq rfl
  case kB => exact locs rfl
  case c2 => exact rfl
  case c3 => exact rfl
  case c4 => exact rfl
  case c5 => decide
  intro g' L' h' FG' F' N' B' X' T'
  have hltN := news_lt N'
  (try dsimp only)
  k_steps
  (with_reducible rename Fr _ _ _ _ => F1)
  (with_reducible rename News _ _ _ _ => N1)
  refine nm1 N1 ?_
  intro ld e1
  subst e1
  have hD1 : ∀ p ∈ news, @LT.lt Nat _ p.1 ld := by assumption
  have hD : ∀ p ∈ news, p.1 ≠ ld := fun p hp => Nat.ne_of_lt (hD1 p hp)
  refine nmF F1 ?_
  intro m₀ em
  have hk1 : m₀ ("digits" : Str) = some (.ref ld) := by subst em; rfl
  have hk2 : m₀ ("number" : Str) = some (.int n t) := by subst em; rfl
  have hk3 : m₀ ("bases" : Str) = some (.ref lb) := by subst em; rfl
  refine For_invT g' ?_ (by intro _; rfl)
  k_steps
  rw [← em] at F1
  clear em
  refine j_listT (l := lb) (items := #[.int 8 u1, .int 9 u2, .int 100 u3, .int 100 u4, .int 100 u5, .int 1000000000 u6]) (c := cb) (fun i m nw => ∃ (its : Array Value) (c : Nat) (tn : Tok), nw = (ld, W.listOf its c) :: news ∧ IntsAre its.toList (dgs n (bl8.take i)) ∧ m ("digits" : Str) = some (.ref ld) ∧ m ("number" : Str) = some (.int (rst n (bl8.take i)) tn) ∧ 0 ≤ rst n (bl8.take i)) hh ?_ F1 N1 ⟨#[], _, _, rfl, .nil, hk1, hk2, h0⟩ ?_ ?_
  · rintro i m nw ⟨its, c, tn, rfl, _⟩
    exact .tail _ hlb
  · rintro i v m₁ nw s₁ I oI hi hv ⟨its, c, tn, rfl, hI, hm1, hm2, hn0⟩ hoff F2 N2
    have hdI : @Ne Nat ld I := hoff _ (.head _)
    have hIn : ∀ p ∈ news, p.1 ≠ I := fun p hp => hoff p (.tail _ hp)
    obtain ⟨b, u, rfl, hb⟩ : ∃ b u, v = .int b u ∧ bl8[i]? = some b := by
      have hi6 : i < 6 := hi
      have hi' : i = 0 ∨ i = 1 ∨ i = 2 ∨ i = 3 ∨ i = 4 ∨ i = 5 := by omega
      rcases hi' with rfl | rfl | rfl | rfl | rfl | rfl <;> exact ⟨_, _, (Option.some.inj hv).symm, rfl⟩
    have hbp : 0 < b ∧ b ≤ 1000000000 := by
      have := List.mem_of_getElem? hb
      simp only [bl8, List.mem_cons, List.not_mem_nil, or_false] at this
      omega
    have em₁ : m₁ = fun z => if z = ("digits" : Str) then some (.ref ld) else if z = ("number" : Str) then some (.int (rst n (bl8.take i)) tn) else m₁ z := by
      funext z
      split
      · rename_i e; rw [e]; exact hm1
      · split
        · rename_i e; rw [e]; exact hm2
        · rfl
    rw [em₁] at F2
    clear em₁
    have hvl : its.size = i := by
      have h1 := hI.length
      rw [dgs_len, List.length_take] at h1
      have hi6 : i < 6 := hi
      have h2 : min i bl8.length = i := Nat.min_eq_left (Nat.le_of_lt hi6)
      rw [h2] at h1
      simpa using h1
    have hi6 : i < 6 := hi
    have e9 := List.take_add_one (l := bl8) (i := i)
    rw [hb] at e9
    have hlt' := news_lt N2
    simp only [AllLt] at hlt'
    clear F1 N1
    rw [e9, show (some b).toList = [b] from rfl, dgs_snoc, rst_snoc] at *
    generalize rst n (bl8.take i) = r at *
    k_steps
    (with_reducible rename News _ _ _ _ => NT)
    have hlt2 := news_lt NT
    simp only [AllLt] at hlt2
    walk1
    k_steps
    (with_reducible rename Fr _ _ _ _ => FE)
    (with_reducible rename News _ _ _ _ => NE)
    rw [← Int.fmod_eq_emod_of_nonneg r (by omega), ← Int.fdiv_eq_ediv_of_nonneg r (by omega)]
    refine ⟨rfl, JEnd.intro ((ld, _) :: news) FE NE (.tail _ (.head _)) (List.forall_mem_cons.mpr ⟨.tail _ (.tail _ (.head _)), fun p hp => .tail _ (.tail _ (.tail _ hp))⟩) (List.forall_mem_cons.mpr ⟨hdI, hIn⟩) ⟨_, _, _, rfl, intsAre_push hI, rfl, rfl, ?_⟩⟩
    rw [Int.fdiv_eq_ediv_of_nonneg r (by omega)]
    exact Int.ediv_nonneg hn0 (by omega)
  · rintro m' nw h tk ⟨its, c, tn, rfl, hI, hm1, hm2, hn0⟩ F2 N2
    have em₁ := map_at hm1
    rw [em₁] at F2
    clear em₁ F1 N1
    k_steps
    (with_reducible rename Fr h₀ L _ m => FE)
    (with_reducible rename News h₀ L _ _ => NE)
    exact hok _ _ _ _ _ hI FE NE hD1
end
end Mine
end
section
open PySem PySem.W PyProof.Rows PySem.Calls
set_option maxRecDepth 100000
set_option pp.maxSteps 1500
set_option maxHeartbeats 8000000
set_option rowWalk.seconds 0
namespace Mine
local macro_rules | `(tactic| k_room) => `(tactic| ((try simp only [depth_under_make, depth_under_kw, depth_in1, depth_deeper, depth_caller]); first | decide | omega | (simp only [recursionLimit] at *; omega)))
local macro_rules | `(tactic| walk_at "my stop") => `(tactic| ((fail_if_success (with_reducible show wpAny _ _ (pyIter _) (fun it s₂ => LoopAtV _ _ _ _ _ _ _ _ _ it s₂) _ _)); (fail_if_success (with_reducible show wpAny _ _ (call (Value.ref _) _ _) _ _ _)); skip))
local macro_rules | `(tactic| k_steps) => `(tactic| repeat' (first | (k_unfold; (try dsimp only)) | (k_end; wrow_close) | (walk_at "my stop"; walk1) | (walk_at "my stop"; dsimp only; walk1) | (leave1; walk_say "STEP leave1"; try dsimp only) | fail "no step"))
local macro_rules | `(tactic| walk_at "mem tail") => `(tactic| (intro p hp; repeat (first | exact hp | refine List.Mem.tail _ ?_)))
local macro_rules | `(tactic| walk_at "mem all") => `(tactic| repeat' (first | exact List.forall_mem_nil _ | (refine List.forall_mem_cons.mpr ⟨?_, ?_⟩) | k_mem | walk_at "mem tail"))
local macro_rules | `(tactic| walk_at "off all") => `(tactic| repeat' (first | exact List.forall_mem_nil _ | (refine List.forall_mem_cons.mpr ⟨?_, ?_⟩) | k_ne))
local macro_rules | `(tactic| k_all) => `(tactic| (repeat (refine List.forall_mem_cons.mpr ⟨by k_ne, ?_⟩)); first | assumption | exact List.forall_mem_nil _)
local macro_rules | `(tactic| walk_at "assign Tuple") => `(tactic| (k_here; (with_reducible show wpAny _ _ (assign (Expr.Tuple _ _ _) _ (Value.ref _)) _ _ _); (refine' unpackN_ ?k1 ?k2 ?k3 ?k4 ?k5 ?k6 ?_; (case k1 => k_asm); (case k2 => k_asm); (case k3 => kun_tup); (case k4 => first | rfl | assumption); (case k5 => exact rfl); (case k6 => exact rfl); k_whole); intro h' F' N'; (try k_sweep)))
section
variable {w : World} {A A₀ : Around} {E : Value → Shared → Prop} {s : Shared} {L : Addr} {h₀ base : Heap} {m mg mb : Str → Option Value} {news : List (Addr × Obj)} {p : Program} {loose : List Str} {mean : ExcName → Option Value} {Q : Value → Shared → Prop} {env : Env} {outer : List Env}
/-- two figures -/
def twoS (n : Int) : PySem.Str := Txt.slice (PySem.Str.ofString (toString (100 + n))) (some 1) none
theorem two (B : Below A₀ base outer h₀) (F : Fr h₀ L s.heap m) (X : (hd.heap_39 w.params).In h₀) (N : News h₀ L s.heap news) (T : Top p loose mean mg mb h₀) (hA : A.frames = some (env :: outer)) (hf : env.frame = some L) (hke : env.scope.kind = .function)
  (hroom : A.depth + 20 < recursionLimit) (hh : A.handled = none) (hu : A.units + 20 < cLine) {n : Int} {t : Tok} (h0 : 0 ≤ n) (h1 : n < 100)
  (hok : ∀ h' tk t1, Fr h₀ L h' m → News h₀ L h' news → Q (.str (twoS n) t1) { s with heap := h', toks := tk }) :
  wpAny (model PySem.Challenge.rw_km0086_08.row.prog w) A (call (.ref 43) [.int n t]) Q E s := by
  w_top off
  refine wpAny_call ?_
  refine' code_def B F X N T hA hf hke ?k6 ?k7 ?k8 ?k9 ?kB ?_ ?c2 ?c3 ?c4 ?c5
  case k6 => k_is
  case k7 => k_is
  case k8 => k_room
  case k9 => exact BindsTo.of_eq rfl
  case kB => exact locs rfl
  case c2 => exact rfl
  case c3 => exact rfl
  case c4 => exact rfl
  case c5 => decide
  intro g' L' h' FG' F' N' B' X' T'
  (try dsimp only)
  k_steps
  (with_reducible rename Fr h₀ L _ m => FE)
  (with_reducible rename News h₀ L _ _ => NE)
  exact hok _ _ _ FE NE
end
end Mine
end
section
open PySem PySem.W PyProof.Rows PySem.Calls
set_option maxRecDepth 100000
set_option pp.maxSteps 1500
set_option maxHeartbeats 8000000
set_option rowWalk.seconds 0
namespace Mine
local macro_rules | `(tactic| k_room) => `(tactic| ((try simp only [depth_under_make, depth_under_kw, depth_in1, depth_deeper, depth_caller]); first | decide | omega | (simp only [recursionLimit] at *; omega)))
local macro_rules | `(tactic| walk_at "my stop") => `(tactic| ((fail_if_success (with_reducible show wpAny _ _ (call (Value.ref _) _ _) _ _ _)); (fail_if_success (with_reducible show wpAny _ _ (noteFrame _ _) _ _ _)); skip))
local macro_rules | `(tactic| k_steps) => `(tactic| repeat' (first | (k_unfold; (try dsimp only)) | (k_end; wrow_close) | (walk_at "my stop"; walk1) | (walk_at "my stop"; dsimp only; walk1) | (leave1; walk_say "STEP leave1"; try dsimp only) | fail "no step"))
local macro_rules | `(tactic| walk_at "units") => `(tactic| ((try simp only [units_deeper, units_in1, units_caller, cLine_is]); first | decide | (simp only [cLine_is] at *; omega)))
section
variable {w : World} {A A₀ : Around} {E : Value → Shared → Prop} {s : Shared} {L : Addr} {h₀ base : Heap} {m mg mb : Str → Option Value} {news : List (Addr × Obj)} {p : Program} {loose : List Str} {mean : ExcName → Option Value} {Q : Value → Shared → Prop} {cn : Str} {cs : Scope} {a₀ : Addr} {ccd : Value}
theorem told (B : Below A₀ base [] h₀) (F : Fr h₀ L s.heap m) (X : (hd.heap_39 w.params).In h₀) (XB : (hd.heap_39 w.params).In base) (TB : Top p loose mean mg mb base) (N : News h₀ L s.heap news) (T : Top p loose mean mg mb h₀) (hA : A.frames = some [envOf cn cs L a₀ ccd]) (hck : cs.kind = .function)
  (hroom : A.depth + 30 < recursionLimit) (hh : A.handled = none) (hu : A.units + 30 < cLine) {x : Str} {t : Tok} (hx : x.length ≤ 100) (hcp : ∀ c ∈ x.cps.toList, c < 16 ^ 8)
  (hok : ∀ h' tk l (a b d f : Int) t1 t2 t3 t4 c, parseP x = .ok [a, b, d, f] → Fr h₀ L h' m → News h₀ L h' ((l, W.listOf #[.int a t1, .int b t2, .int d t3, .int f t4] c) :: news) → (∀ p ∈ news, @LT.lt Nat _ p.1 l) → Q (.ref l) { s with heap := h', toks := tk })
  (hbad : ∀ h' tk l msg t1 o c, parseP x = .error msg → o.cls = .type "tuple" → o.data = .seq #[.str msg t1] c → Fr h₀ L h' m → News h₀ L h' ((l, o) :: news) → Q (.ref l) { s with heap := h', toks := tk }) :
  wpC (model PySem.Challenge.rw_km0086_08.row.prog w) A (call (.ref 57) [.str x t]) Q E s := by
  w_top off
  refine wpC_call ?_
  refine' codeC_defS0 B F X N T hA ?k6 ?k7 ?k8 ?k9 ?kB ?_ hck ?c2 ?c3 ?c4 ?c5
  case k6 => k_is
  case k7 => k_is
  case k8 => k_room
  case k9 => exact BindsTo.of_eq rfl
  case kB => exact locs rfl
  case c2 => exact rfl
  case c3 => exact rfl
  case c4 => exact rfl
  case c5 => decide
  intro g' L' h' FG' F' N' B' X' T' D'
  (try dsimp only)
  refine wpC_execs_cons (wpC_Try_except (wpC_execs_cons (wpC_Return (wpC_Call_Name ?_))))
  k_steps
  (with_reducible rename Fr g' _ _ _ => F8)
  (with_reducible rename News g' _ _ _ => N8)
  have h29 := X' 29 _ (by k_is)
  refine wpC_callWith_fun (hdat := (show Obj.data _ = .func _ from rfl)) (wpAny_mono (Q := fun vs s₁ => (∀ b o, g'.get? b = some o → s₁.heap.get? b = some o) ∧ wpC _ _ (call (.ref 29) vs) _ _ s₁) ?_ (fun vs s₁ q => ⟨q.1 _ _ h29, q.2⟩) fun _ _ q => q)
  k_steps
  refine parse B' F8 X' N8 T' (Around.frames_deeper B'.stack) rfl rfl ?hr1 hh ?hu1 hx hcp ?_ ?_
  case hr1 =>
    have hr : A.depth + 1 + 20 < recursionLimit := by omega
    exact hr
  case hu1 => walk_at "units"
  · intro h9 tk9 l9 a b d f t1 t2 t3 t4 c9 hp9 F9 N9 l9lt
    dsimp only
    k_steps
    (with_reducible rename Fr h₀ L _ m => FE)
    (with_reducible rename News h₀ L _ _ => NE)
    exact hok _ _ _ _ _ _ _ _ _ _ _ _ hp9 FE NE l9lt
  · intro g9 h9 e9 tt9 tk9 tk9' msg hm9 F9 R9 U9
    dsimp only
    refine caught_SB (KF := hd.heap_39 w.params) R9 F9 B' U9 XB TB D' KtsTurn.refl (by k_is) (by boot_by_name) (by decide +kernel) PySem.F.isExc_ValueError PySem.F.notTuple_ValueError (by rw [isSubtype_type]; kernel_rfl) ?_
    intro h12 g12 newsA tkA K12 FA NA GA NB B12 X12 T12 D12
    obtain ⟨oe, ot, ws, nt, me, mt, hec, hed, hw0, htc, htd⟩ := id GA
    have NM : News g12 L' h12 (newsA ++ news) := fun p hp => (List.mem_append.mp hp).elim (NA p) (NB p)
    have mt' := List.mem_append_left news mt
    have mn' : ∀ p ∈ news, p ∈ newsA ++ news := fun p hp => List.mem_append_right _ hp
    k_steps
    (with_reducible rename Fr h₀ L _ m => FE)
    (with_reducible rename News h₀ L _ _ => NE)
    exact hbad _ _ _ _ _ ot _ hm9 htc htd FE (news_sub NE (List.forall_mem_cons.mpr ⟨mt', mn'⟩))
end
end Mine
end
section
open PySem PySem.W PyProof.Rows PySem.Calls PySem.Builtin PySem.Builtin.Str PySem.NumText
set_option maxRecDepth 100000
namespace Mine
theorem notc {b : Bool} : ¬ (b = true ∧ ((PySem.Str.ofString ":") != PySem.Str.ofString ":") = true) := fun z => by
  have : ((PySem.Str.ofString ":") != PySem.Str.ofString ":") = false := by decide +kernel
  rw [this] at z
  cases z.2
abbrev cOl : PySem.Str := PySem.Str.ofString ":"
section
variable {x : PySem.Str} {h m s : Int}
theorem go3 (hl : 8 ≤ (x.length : Int)) (h0 : PySem.intText? (pairS x 0) = some h) (n0 : nextS x 2 = cOl) (h1 : PySem.intText? (pairS x 3) = some m) (n1 : nextS x 5 = cOl) (h2 : PySem.intText? (pairS x 6) = some s) :
    goP x 3 0 false [] = .ok (8, [h, m, s]) := by
  have c1 : cOl.length = 1 := by decide +kernel
  rw [goP_on (v := h) (by omega) h0 (by rw [show (0 : Int) + 2 = 2 from rfl, n0, c1]; omega) (by rw [show (0 : Int) + 2 = 2 from rfl, n0]; exact notc)]
  have e1 : sepP x 2 0 false = true := by show (nextS x (0 + 2) == _) = true; rw [show (0 : Int) + 2 = 2 from rfl, n0]; decide +kernel
  rw [e1, show (0 : Int) + 2 + sepN true = 3 from rfl]
  rw [goP_on (v := m) (by omega) h1 (by rw [show (3 : Int) + 2 = 5 from rfl, n1, c1]; omega) (by rw [show (3 : Int) + 2 = 5 from rfl, n1]; exact notc)]
  rw [show sepP x 1 3 true = true from rfl, show (3 : Int) + 2 + sepN true = 6 from rfl]
  exact goP_stop (v := s) (by omega) h2 (.inr rfl)
theorem go3n (hl : 6 ≤ (x.length : Int)) (h0 : PySem.intText? (pairS x 0) = some h) (k0 : (nextS x 2).length = 1) (n0 : (nextS x 2 == cOl) = false) (h1 : PySem.intText? (pairS x 2) = some m) (k1 : (nextS x 4).length = 1) (h2 : PySem.intText? (pairS x 4) = some s) :
    goP x 3 0 false [] = .ok (6, [h, m, s]) := by
  have e1 : sepP x 2 0 false = false := n0
  rw [goP_on (v := h) (by omega) h0 (by rw [show (0 : Int) + 2 = 2 from rfl, k0]; omega) (fun z => by rw [e1] at z; cases z.1)]
  rw [e1, show (0 : Int) + 2 + sepN false = 2 from rfl]
  rw [goP_on (v := m) (by omega) h1 (by rw [show (2 : Int) + 2 = 4 from rfl, k1]; omega) (fun z => by cases z.1)]
  rw [show sepP x 1 2 false = false from rfl, show (2 : Int) + 2 + sepN false = 4 from rfl]
  exact goP_stop (v := s) (by omega) h2 (.inr rfl)
theorem go2 (hl : (x.length : Int) = 5) (h0 : PySem.intText? (pairS x 0) = some h) (n0 : nextS x 2 = cOl) (h1 : PySem.intText? (pairS x 3) = some m) (n1 : (nextS x 5).length = 0) :
    goP x 3 0 false [] = .ok (5, [h, m]) := by
  have c1 : cOl.length = 1 := by decide +kernel
  rw [goP_on (v := h) (by omega) h0 (by rw [show (0 : Int) + 2 = 2 from rfl, n0, c1]; omega) (by rw [show (0 : Int) + 2 = 2 from rfl, n0]; exact notc)]
  have e1 : sepP x 2 0 false = true := by show (nextS x (0 + 2) == _) = true; rw [show (0 : Int) + 2 = 2 from rfl, n0]; decide +kernel
  rw [e1, show (0 : Int) + 2 + sepN true = 3 from rfl]
  exact goP_stop (v := m) (by omega) h1 (.inl n1)
theorem go2s (hl : 6 ≤ (x.length : Int)) (h0 : PySem.intText? (pairS x 0) = some h) (n0 : nextS x 2 = cOl) (h1 : PySem.intText? (pairS x 3) = some m) (n1 : nextS x 5 = PySem.Str.ofString ";") :
    goP x 3 0 false [] = .error (PySem.Str.ofString "Invalid time separator: ;") := by
  have c1 : cOl.length = 1 := by decide +kernel
  have c2 : (PySem.Str.ofString ";").length = 1 := by decide +kernel
  rw [goP_on (v := h) (by omega) h0 (by rw [show (0 : Int) + 2 = 2 from rfl, n0, c1]; omega) (by rw [show (0 : Int) + 2 = 2 from rfl, n0]; exact notc)]
  have e1 : sepP x 2 0 false = true := by show (nextS x (0 + 2) == _) = true; rw [show (0 : Int) + 2 = 2 from rfl, n0]; decide +kernel
  rw [e1, show (0 : Int) + 2 + sepN true = 3 from rfl]
  rw [goP_sep (v := m) (by omega) h1 (by rw [show (3 : Int) + 2 = 5 from rfl, n1, c2]; omega) rfl (by rw [show (3 : Int) + 2 = 5 from rfl, n1]; decide +kernel)]
  rw [show (3 : Int) + 2 = 5 from rfl, n1]
  exact congrArg _ (by decide +kernel)
theorem go2t (hl : (x.length : Int) = 7) (h0 : PySem.intText? (pairS x 0) = some h) (n0 : nextS x 2 = cOl) (h1 : PySem.intText? (pairS x 3) = some m) (n1 : nextS x 5 = cOl) :
    goP x 3 0 false [] = .error (PySem.Str.ofString "Incomplete time component") := by
  have c1 : cOl.length = 1 := by decide +kernel
  rw [goP_on (v := h) (by omega) h0 (by rw [show (0 : Int) + 2 = 2 from rfl, n0, c1]; omega) (by rw [show (0 : Int) + 2 = 2 from rfl, n0]; exact notc)]
  have e1 : sepP x 2 0 false = true := by show (nextS x (0 + 2) == _) = true; rw [show (0 : Int) + 2 = 2 from rfl, n0]; decide +kernel
  rw [e1, show (0 : Int) + 2 + sepN true = 3 from rfl]
  rw [goP_on (v := m) (by omega) h1 (by rw [show (3 : Int) + 2 = 5 from rfl, n1, c1]; omega) (by rw [show (3 : Int) + 2 = 5 from rfl, n1]; exact notc)]
  rw [show sepP x 1 3 true = true from rfl, show (3 : Int) + 2 + sepN true = 6 from rfl]
  exact goP_short (by omega)
theorem go2b (hl : 8 ≤ (x.length : Int)) (h0 : PySem.intText? (pairS x 0) = some h) (n0 : nextS x 2 = cOl) (h1 : PySem.intText? (pairS x 3) = some m) (n1 : nextS x 5 = cOl) (h2 : PySem.intText? (pairS x 6) = none) :
    goP x 3 0 false [] = .error (refusedText (pairS x 6)) := by
  have c1 : cOl.length = 1 := by decide +kernel
  rw [goP_on (v := h) (by omega) h0 (by rw [show (0 : Int) + 2 = 2 from rfl, n0, c1]; omega) (by rw [show (0 : Int) + 2 = 2 from rfl, n0]; exact notc)]
  have e1 : sepP x 2 0 false = true := by show (nextS x (0 + 2) == _) = true; rw [show (0 : Int) + 2 = 2 from rfl, n0]; decide +kernel
  rw [e1, show (0 : Int) + 2 + sepN true = 3 from rfl]
  rw [goP_on (v := m) (by omega) h1 (by rw [show (3 : Int) + 2 = 5 from rfl, n1, c1]; omega) (by rw [show (3 : Int) + 2 = 5 from rfl, n1]; exact notc)]
  rw [show sepP x 1 3 true = true from rfl, show (3 : Int) + 2 + sepN true = 6 from rfl]
  exact goP_bad (by omega) h2
end
end Mine
end
section
open PySem PySem.W PyProof.Rows PySem.Calls PySem.Builtin PySem.Builtin.Str PySem.NumText
set_option maxRecDepth 100000
set_option maxHeartbeats 4000000
namespace Mine
def figsS (f pl : Int) : PySem.Str := Txt.slice (Txt.slice (PySem.Str.ofString (toString (1000000000 + (f + 987654321) % 1000000000))) (some 1) none) none (some (pl + 1))
abbrev D1 (c : Nat) : Prop := 48 ≤ c ∧ c ≤ 57
theorem two_table : ∀ k : Fin 100, twoS (k.1 : Int) = ⟨#[48 + k.1 / 10, 48 + k.1 % 10]⟩ := by decide +kernel
theorem int_two {a b : Nat} (ha : D1 a) (hb : D1 b) : PySem.intText? ⟨#[a, b]⟩ = some ((((a - 48) * 10 + (b - 48) : Nat)) : Int) := by
  have h := intText_digits (x := ⟨#[a, b]⟩) (fun c hc => by
    simp only [List.mem_cons, List.not_mem_nil, or_false] at hc
    rcases hc with rfl | rfl <;> assumption) (by simp) (by show 2 ≤ 4300; omega)
  rw [h]
  congr 2
  show (0 * 10 + (a - 48)) * 10 + (b - 48) = _
  omega
theorem twoD {n : Int} (h0 : 0 ≤ n) (h1 : n < 100) : ∃ a b, twoS n = ⟨#[a, b]⟩ ∧ D1 a ∧ D1 b ∧ PySem.intText? ⟨#[a, b]⟩ = some n := by
  obtain ⟨k, rfl⟩ := Int.eq_ofNat_of_zero_le h0
  have hk : k < 100 := by omega
  have hD1 : D1 (48 + k / 10) := ⟨by omega, by omega⟩
  have hD2 : D1 (48 + k % 10) := ⟨by omega, by omega⟩
  refine ⟨48 + k / 10, 48 + k % 10, two_table ⟨k, hk⟩, hD1, hD2, ?_⟩
  rw [int_two hD1 hD2]
  congr 2
  omega
theorem ten {l : List Nat} (h : l.length = 10) : ∃ a b c d e f g i j k, l = [a, b, c, d, e, f, g, i, j, k] := by
  rcases l with _ | ⟨a, _ | ⟨b, _ | ⟨c, _ | ⟨d, _ | ⟨e, _ | ⟨f, _ | ⟨g, _ | ⟨i, _ | ⟨j, _ | ⟨k, _ | ⟨n, r⟩⟩⟩⟩⟩⟩⟩⟩⟩⟩⟩ <;> simp only [List.length_cons, List.length_nil] at h <;> first | omega | exact ⟨_, _, _, _, _, _, _, _, _, _, rfl⟩
theorem str_ten {m : Nat} (h0 : 10 ^ 9 ≤ m) (h1 : m < 10 ^ 10) : ∃ a b c d e f g i j k, PySem.Str.ofString (toString (m : Int)) = ⟨#[a, b, c, d, e, f, g, i, j, k]⟩ ∧ D1 b ∧ D1 c ∧ D1 d ∧ D1 e ∧ D1 f ∧ D1 g ∧ D1 i ∧ D1 j ∧ D1 k := by
  have e := KIN.signs_num m
  have hd : ∀ c ∈ (Nat.toDigits 10 m).map Char.toNat, D1 c := by
    intro c hc
    obtain ⟨ch, hch, e⟩ := List.mem_map.mp hc
    have r := PyProof.Rows.digit_range (Nat.isDigit_of_mem_toDigits (by decide) (by decide) hch)
    rw [← e]
    exact r
  have hl : (Nat.toDigits 10 m).length = 10 := by
    have h2 : ¬ (Nat.toDigits 10 m).length ≤ 9 := fun z => by
      have := (Nat.length_toDigits_le_iff (b := 10) (n := m) (k := 9) (by decide) (by decide)).mp z
      omega
    have h3 := (Nat.length_toDigits_le_iff (b := 10) (n := m) (k := 10) (by decide) (by decide)).mpr h1
    omega
  obtain ⟨a, b, c, d, f1, f2, f3, f4, f5, f6, e2⟩ := ten (l := (Nat.toDigits 10 m).map Char.toNat) (by rw [List.length_map, hl])
  rw [e2] at e hd
  refine ⟨a, b, c, d, f1, f2, f3, f4, f5, f6, ?_, ?_⟩
  · generalize PySem.Str.ofString (toString (m : Int)) = y at e
    obtain ⟨⟨l⟩⟩ := y
    have e3 : l = _ := e
    rw [e3]
  · refine ⟨hd _ ?_, hd _ ?_, hd _ ?_, hd _ ?_, hd _ ?_, hd _ ?_, hd _ ?_, hd _ ?_, hd _ ?_⟩ <;> simp
theorem figsD {f pl : Int} (h0 : 0 ≤ pl) (h1 : pl < 9) : ∃ ds : List Nat, (∀ c ∈ ds, D1 c) ∧ (ds.length : Int) = pl + 1 ∧ figsS f pl = ⟨ds.toArray⟩ := by
  have hm := Int.emod_nonneg (f + 987654321) (by decide : (1000000000 : Int) ≠ 0)
  have hm2 := Int.emod_lt_of_pos (f + 987654321) (by decide : (0 : Int) < 1000000000)
  unfold figsS
  obtain ⟨k, hk⟩ := Int.eq_ofNat_of_zero_le (a := 1000000000 + (f + 987654321) % 1000000000) (by omega)
  have hk1 : 10 ^ 9 ≤ k := by omega
  have hk3 : k < 10 ^ 10 := by omega
  rw [hk]
  clear hk hm hm2
  obtain ⟨a, b, c, d, e, f, g, i, j, k, e1, hb, hc, hd, he, hf, hg, hi, hj, hk2⟩ := str_ten (m := k) hk1 hk3
  rw [e1, show Txt.slice ⟨#[a, b, c, d, e, f, g, i, j, k]⟩ (some 1) none = ⟨#[b, c, d, e, f, g, i, j, k]⟩ from by with_unfolding_all rfl]
  have hp : pl = 0 ∨ pl = 1 ∨ pl = 2 ∨ pl = 3 ∨ pl = 4 ∨ pl = 5 ∨ pl = 6 ∨ pl = 7 ∨ pl = 8 := by omega
  rcases hp with rfl | rfl | rfl | rfl | rfl | rfl | rfl | rfl | rfl
  · exact ⟨[b], by simp only [List.forall_mem_cons, List.not_mem_nil, false_implies, implies_true, and_true]; (repeat' (first | assumption | refine ⟨?_, ?_⟩)), rfl, by with_unfolding_all rfl⟩
  · exact ⟨[b, c], by simp only [List.forall_mem_cons, List.not_mem_nil, false_implies, implies_true, and_true]; (repeat' (first | assumption | refine ⟨?_, ?_⟩)), rfl, by with_unfolding_all rfl⟩
  · exact ⟨[b, c, d], by simp only [List.forall_mem_cons, List.not_mem_nil, false_implies, implies_true, and_true]; (repeat' (first | assumption | refine ⟨?_, ?_⟩)), rfl, by with_unfolding_all rfl⟩
  · exact ⟨[b, c, d, e], by simp only [List.forall_mem_cons, List.not_mem_nil, false_implies, implies_true, and_true]; (repeat' (first | assumption | refine ⟨?_, ?_⟩)), rfl, by with_unfolding_all rfl⟩
  · exact ⟨[b, c, d, e, f], by simp only [List.forall_mem_cons, List.not_mem_nil, false_implies, implies_true, and_true]; (repeat' (first | assumption | refine ⟨?_, ?_⟩)), rfl, by with_unfolding_all rfl⟩
  · exact ⟨[b, c, d, e, f, g], by simp only [List.forall_mem_cons, List.not_mem_nil, false_implies, implies_true, and_true]; (repeat' (first | assumption | refine ⟨?_, ?_⟩)), rfl, by with_unfolding_all rfl⟩
  · exact ⟨[b, c, d, e, f, g, i], by simp only [List.forall_mem_cons, List.not_mem_nil, false_implies, implies_true, and_true]; (repeat' (first | assumption | refine ⟨?_, ?_⟩)), rfl, by with_unfolding_all rfl⟩
  · exact ⟨[b, c, d, e, f, g, i, j], by simp only [List.forall_mem_cons, List.not_mem_nil, false_implies, implies_true, and_true]; (repeat' (first | assumption | refine ⟨?_, ?_⟩)), rfl, by with_unfolding_all rfl⟩
  · exact ⟨[b, c, d, e, f, g, i, j, k], by simp only [List.forall_mem_cons, List.not_mem_nil, false_implies, implies_true, and_true]; (repeat' (first | assumption | refine ⟨?_, ?_⟩)), rfl, by with_unfolding_all rfl⟩
end Mine
end
section
open PySem PySem.W PyProof.Rows PySem.Calls PySem.Builtin PySem.Builtin.Str PySem.NumText
set_option maxRecDepth 100000
set_option maxHeartbeats 4000000
namespace Mine
def TwoIs (x : PySem.Str) (n : Int) : Prop := ∃ a b, x = ⟨#[a, b]⟩ ∧ D1 a ∧ D1 b ∧ PySem.intText? ⟨#[a, b]⟩ = some n
def FigIs (x : PySem.Str) : Prop := ∃ ds : List Nat, (∀ c ∈ ds, D1 c) ∧ 1 ≤ ds.length ∧ ds.length ≤ 9 ∧ x = ⟨ds.toArray⟩
def TextOk (x : PySem.Str) : Prop := x.length ≤ 100 ∧ ∀ c ∈ x.cps.toList, c < 16 ^ 8
theorem dig_table : ∀ k : Fin 10, digQ (48 + k.1) = true := by decide +kernel
theorem digQ_true {c : Nat} (h : D1 c) : digQ c = true := by
  have := dig_table ⟨c - 48, by omega⟩
  rwa [show 48 + (c - 48) = c by omega] at this
theorem bad_table : ∀ k : Fin 10, PySem.intText? ⟨#[120, 48 + k.1]⟩ = none ∧ refusedText ⟨#[120, 48 + k.1]⟩ = PySem.Str.ofString "invalid literal for int() with base 10: 'x" ++ ⟨#[48 + k.1]⟩ ++ PySem.Str.ofString "'" := by decide +kernel
theorem bad_pair {c : Nat} (h : D1 c) : PySem.intText? ⟨#[120, c]⟩ = none ∧ refusedText ⟨#[120, c]⟩ = PySem.Str.ofString "invalid literal for int() with base 10: 'x" ++ ⟨#[c]⟩ ++ PySem.Str.ofString "'" := by
  have := bad_table ⟨c - 48, by omega⟩
  rwa [show 48 + (c - 48) = c by omega] at this
theorem digs_some {y : PySem.Str} {l : List Nat} (e : y = ⟨l.toArray⟩) (h : ∀ c ∈ l, D1 c) (h1 : l ≠ []) (h2 : l.length ≤ 4300) : PySem.intText? y = some ((digitsVal l : Nat) : Int) := by
  subst e
  have q := intText_digits (x := ⟨l.toArray⟩) h h1 (by show l.toArray.size ≤ 4300; simpa using h2)
  simpa using q
abbrev sC : PySem.Str := PySem.Str.ofString ":"
abbrev sZ : PySem.Str := PySem.Str.ofString "000000"
theorem textOk_of {x : PySem.Str} {l : List Nat} (e : x = ⟨l.toArray⟩) (h : l.length ≤ 100) (hd : ∀ c ∈ l, c < 16 ^ 8) : TextOk x := by
  subst e
  exact ⟨by show l.toArray.size ≤ 100; simpa using h, by simpa using hd⟩
section
variable {hh mm ss fg : PySem.Str} {h m s : Int}
theorem page0 (h1 : TwoIs hh h) (h2 : TwoIs mm m) (h3 : TwoIs ss s) (h4 : FigIs fg) : ∃ v, PySem.intText? (Txt.slice (fg ++ sZ) none (some 6)) = some v ∧ TextOk (hh ++ sC ++ mm ++ sC ++ ss ++ PySem.Str.ofString "." ++ fg) ∧ parseP (hh ++ sC ++ mm ++ sC ++ ss ++ PySem.Str.ofString "." ++ fg) = .ok [h, m, s, v] := by
  obtain ⟨a, b, rfl, ha, hb, hi⟩ := h1
  obtain ⟨c, d, rfl, hc, hd, hj⟩ := h2
  obtain ⟨e, f, rfl, he, hf, hk⟩ := h3
  obtain ⟨ds, hds, hl1, hl2, rfl⟩ := h4
  rcases ds with _ | ⟨g1, _ | ⟨g2, _ | ⟨g3, _ | ⟨g4, _ | ⟨g5, _ | ⟨g6, _ | ⟨g7, _ | ⟨g8, _ | ⟨g9, _ | ⟨g10, r⟩⟩⟩⟩⟩⟩⟩⟩⟩⟩
  · exact absurd hl1 (by decide)
  · simp only [List.forall_mem_cons, List.not_mem_nil, false_implies, implies_true, and_true] at hds
    have q1 := hds
    have hv := digs_some (y := ⟨#[g1, 48, 48, 48, 48, 48]⟩) (l := [g1, 48, 48, 48, 48, 48]) rfl (by simp only [List.forall_mem_cons, List.not_mem_nil, false_implies, implies_true, and_true]; simp only [D1] at *; omega) (by simp) (by simp)
    refine ⟨((digitsVal [g1, 48, 48, 48, 48, 48] : Nat) : Int), ?_, textOk_of (l := [a, b, 58, c, d, 58, e, f, 46, g1]) (by with_unfolding_all rfl) (by simp) (by simp only [List.forall_mem_cons, List.not_mem_nil, false_implies, implies_true, and_true]; simp only [D1] at *; omega), ?_⟩
    · rw [show Txt.slice (_ ++ sZ) none (some 6) = ⟨#[g1, 48, 48, 48, 48, 48]⟩ from by with_unfolding_all rfl]
      exact hv
    · rw [show (_ ++ sC ++ _ ++ sC ++ _ ++ PySem.Str.ofString "." ++ _ : PySem.Str) = ⟨#[a, b, 58, c, d, 58, e, f, 46, g1]⟩ from by with_unfolding_all rfl]
      refine (parseP_ok (go3 (by show (8 : Int) ≤ ((10 : Nat) : Int); decide) (by rw [show pairS _ 0 = ⟨#[a, b]⟩ from by with_unfolding_all rfl]; exact hi) (by with_unfolding_all rfl) (by rw [show pairS _ 3 = ⟨#[c, d]⟩ from by with_unfolding_all rfl]; exact hj) (by with_unfolding_all rfl) (by rw [show pairS _ 6 = ⟨#[e, f]⟩ from by with_unfolding_all rfl]; exact hk)) rfl).trans ?_
      have hit : Txt.item ⟨#[a, b, 58, c, d, 58, e, f, 46, g1]⟩ 8 = ⟨#[46]⟩ := by with_unfolding_all rfl
      have hall : (Txt.slice ⟨#[a, b, 58, c, d, 58, e, f, 46, g1]⟩ (some (8 + 1)) none).cps.toList.all digQ = true := by
        rw [show Txt.slice ⟨#[a, b, 58, c, d, 58, e, f, 46, g1]⟩ (some (8 + 1)) none = ⟨#[g1]⟩ from by with_unfolding_all rfl]
        simp only [List.all_cons, List.all_nil, Bool.and_true, Bool.and_self, digQ_true q1]
      have hw := digs_some (y := ⟨#[g1]⟩) (l := [g1]) rfl (by simp only [List.forall_mem_cons, List.not_mem_nil, false_implies, implies_true, and_true]; simp only [D1] at *; omega) (by simp) (by simp)
      rw [tail_few (rem := 1) (show (8 : Int) < ((10 : Nat) : Int) by decide) (by rw [hit]; decide +kernel) hall (by decide) (show (1 : Int) = ((10 : Nat) : Int) - (8 + 1) by decide), show Txt.slice ⟨#[a, b, 58, c, d, 58, e, f, 46, g1]⟩ (some (8 + 1)) (some (8 + 1 + 1)) = ⟨#[g1]⟩ from by with_unfolding_all rfl, hw]
      show Except.ok [h, m, s, _ * fcP 1] = _
      rw [show fcP 1 = 100000 from rfl]
      have hvv : ((digitsVal [g1] : Nat) : Int) * 100000 = ((digitsVal [g1, 48, 48, 48, 48, 48] : Nat) : Int) := by
        simp only [digitsVal, List.foldl_cons, List.foldl_nil]
        omega
      rw [hvv]
  · simp only [List.forall_mem_cons, List.not_mem_nil, false_implies, implies_true, and_true] at hds
    obtain ⟨q1, q2⟩ := hds
    have hv := digs_some (y := ⟨#[g1, g2, 48, 48, 48, 48]⟩) (l := [g1, g2, 48, 48, 48, 48]) rfl (by simp only [List.forall_mem_cons, List.not_mem_nil, false_implies, implies_true, and_true]; simp only [D1] at *; omega) (by simp) (by simp)
    refine ⟨((digitsVal [g1, g2, 48, 48, 48, 48] : Nat) : Int), ?_, textOk_of (l := [a, b, 58, c, d, 58, e, f, 46, g1, g2]) (by with_unfolding_all rfl) (by simp) (by simp only [List.forall_mem_cons, List.not_mem_nil, false_implies, implies_true, and_true]; simp only [D1] at *; omega), ?_⟩
    · rw [show Txt.slice (_ ++ sZ) none (some 6) = ⟨#[g1, g2, 48, 48, 48, 48]⟩ from by with_unfolding_all rfl]
      exact hv
    · rw [show (_ ++ sC ++ _ ++ sC ++ _ ++ PySem.Str.ofString "." ++ _ : PySem.Str) = ⟨#[a, b, 58, c, d, 58, e, f, 46, g1, g2]⟩ from by with_unfolding_all rfl]
      refine (parseP_ok (go3 (by show (8 : Int) ≤ ((11 : Nat) : Int); decide) (by rw [show pairS _ 0 = ⟨#[a, b]⟩ from by with_unfolding_all rfl]; exact hi) (by with_unfolding_all rfl) (by rw [show pairS _ 3 = ⟨#[c, d]⟩ from by with_unfolding_all rfl]; exact hj) (by with_unfolding_all rfl) (by rw [show pairS _ 6 = ⟨#[e, f]⟩ from by with_unfolding_all rfl]; exact hk)) rfl).trans ?_
      have hit : Txt.item ⟨#[a, b, 58, c, d, 58, e, f, 46, g1, g2]⟩ 8 = ⟨#[46]⟩ := by with_unfolding_all rfl
      have hall : (Txt.slice ⟨#[a, b, 58, c, d, 58, e, f, 46, g1, g2]⟩ (some (8 + 1)) none).cps.toList.all digQ = true := by
        rw [show Txt.slice ⟨#[a, b, 58, c, d, 58, e, f, 46, g1, g2]⟩ (some (8 + 1)) none = ⟨#[g1, g2]⟩ from by with_unfolding_all rfl]
        simp only [List.all_cons, List.all_nil, Bool.and_true, Bool.and_self, digQ_true q1, digQ_true q2]
      have hw := digs_some (y := ⟨#[g1, g2]⟩) (l := [g1, g2]) rfl (by simp only [List.forall_mem_cons, List.not_mem_nil, false_implies, implies_true, and_true]; simp only [D1] at *; omega) (by simp) (by simp)
      rw [tail_few (rem := 2) (show (8 : Int) < ((11 : Nat) : Int) by decide) (by rw [hit]; decide +kernel) hall (by decide) (show (2 : Int) = ((11 : Nat) : Int) - (8 + 1) by decide), show Txt.slice ⟨#[a, b, 58, c, d, 58, e, f, 46, g1, g2]⟩ (some (8 + 1)) (some (8 + 1 + 2)) = ⟨#[g1, g2]⟩ from by with_unfolding_all rfl, hw]
      show Except.ok [h, m, s, _ * fcP 2] = _
      rw [show fcP 2 = 10000 from rfl]
      have hvv : ((digitsVal [g1, g2] : Nat) : Int) * 10000 = ((digitsVal [g1, g2, 48, 48, 48, 48] : Nat) : Int) := by
        simp only [digitsVal, List.foldl_cons, List.foldl_nil]
        omega
      rw [hvv]
  · simp only [List.forall_mem_cons, List.not_mem_nil, false_implies, implies_true, and_true] at hds
    obtain ⟨q1, q2, q3⟩ := hds
    have hv := digs_some (y := ⟨#[g1, g2, g3, 48, 48, 48]⟩) (l := [g1, g2, g3, 48, 48, 48]) rfl (by simp only [List.forall_mem_cons, List.not_mem_nil, false_implies, implies_true, and_true]; simp only [D1] at *; omega) (by simp) (by simp)
    refine ⟨((digitsVal [g1, g2, g3, 48, 48, 48] : Nat) : Int), ?_, textOk_of (l := [a, b, 58, c, d, 58, e, f, 46, g1, g2, g3]) (by with_unfolding_all rfl) (by simp) (by simp only [List.forall_mem_cons, List.not_mem_nil, false_implies, implies_true, and_true]; simp only [D1] at *; omega), ?_⟩
    · rw [show Txt.slice (_ ++ sZ) none (some 6) = ⟨#[g1, g2, g3, 48, 48, 48]⟩ from by with_unfolding_all rfl]
      exact hv
    · rw [show (_ ++ sC ++ _ ++ sC ++ _ ++ PySem.Str.ofString "." ++ _ : PySem.Str) = ⟨#[a, b, 58, c, d, 58, e, f, 46, g1, g2, g3]⟩ from by with_unfolding_all rfl]
      refine (parseP_ok (go3 (by show (8 : Int) ≤ ((12 : Nat) : Int); decide) (by rw [show pairS _ 0 = ⟨#[a, b]⟩ from by with_unfolding_all rfl]; exact hi) (by with_unfolding_all rfl) (by rw [show pairS _ 3 = ⟨#[c, d]⟩ from by with_unfolding_all rfl]; exact hj) (by with_unfolding_all rfl) (by rw [show pairS _ 6 = ⟨#[e, f]⟩ from by with_unfolding_all rfl]; exact hk)) rfl).trans ?_
      have hit : Txt.item ⟨#[a, b, 58, c, d, 58, e, f, 46, g1, g2, g3]⟩ 8 = ⟨#[46]⟩ := by with_unfolding_all rfl
      have hall : (Txt.slice ⟨#[a, b, 58, c, d, 58, e, f, 46, g1, g2, g3]⟩ (some (8 + 1)) none).cps.toList.all digQ = true := by
        rw [show Txt.slice ⟨#[a, b, 58, c, d, 58, e, f, 46, g1, g2, g3]⟩ (some (8 + 1)) none = ⟨#[g1, g2, g3]⟩ from by with_unfolding_all rfl]
        simp only [List.all_cons, List.all_nil, Bool.and_true, Bool.and_self, digQ_true q1, digQ_true q2, digQ_true q3]
      have hw := digs_some (y := ⟨#[g1, g2, g3]⟩) (l := [g1, g2, g3]) rfl (by simp only [List.forall_mem_cons, List.not_mem_nil, false_implies, implies_true, and_true]; simp only [D1] at *; omega) (by simp) (by simp)
      rw [tail_few (rem := 3) (show (8 : Int) < ((12 : Nat) : Int) by decide) (by rw [hit]; decide +kernel) hall (by decide) (show (3 : Int) = ((12 : Nat) : Int) - (8 + 1) by decide), show Txt.slice ⟨#[a, b, 58, c, d, 58, e, f, 46, g1, g2, g3]⟩ (some (8 + 1)) (some (8 + 1 + 3)) = ⟨#[g1, g2, g3]⟩ from by with_unfolding_all rfl, hw]
      show Except.ok [h, m, s, _ * fcP 3] = _
      rw [show fcP 3 = 1000 from rfl]
      have hvv : ((digitsVal [g1, g2, g3] : Nat) : Int) * 1000 = ((digitsVal [g1, g2, g3, 48, 48, 48] : Nat) : Int) := by
        simp only [digitsVal, List.foldl_cons, List.foldl_nil]
        omega
      rw [hvv]
  · simp only [List.forall_mem_cons, List.not_mem_nil, false_implies, implies_true, and_true] at hds
    obtain ⟨q1, q2, q3, q4⟩ := hds
    have hv := digs_some (y := ⟨#[g1, g2, g3, g4, 48, 48]⟩) (l := [g1, g2, g3, g4, 48, 48]) rfl (by simp only [List.forall_mem_cons, List.not_mem_nil, false_implies, implies_true, and_true]; simp only [D1] at *; omega) (by simp) (by simp)
    refine ⟨((digitsVal [g1, g2, g3, g4, 48, 48] : Nat) : Int), ?_, textOk_of (l := [a, b, 58, c, d, 58, e, f, 46, g1, g2, g3, g4]) (by with_unfolding_all rfl) (by simp) (by simp only [List.forall_mem_cons, List.not_mem_nil, false_implies, implies_true, and_true]; simp only [D1] at *; omega), ?_⟩
    · rw [show Txt.slice (_ ++ sZ) none (some 6) = ⟨#[g1, g2, g3, g4, 48, 48]⟩ from by with_unfolding_all rfl]
      exact hv
    · rw [show (_ ++ sC ++ _ ++ sC ++ _ ++ PySem.Str.ofString "." ++ _ : PySem.Str) = ⟨#[a, b, 58, c, d, 58, e, f, 46, g1, g2, g3, g4]⟩ from by with_unfolding_all rfl]
      refine (parseP_ok (go3 (by show (8 : Int) ≤ ((13 : Nat) : Int); decide) (by rw [show pairS _ 0 = ⟨#[a, b]⟩ from by with_unfolding_all rfl]; exact hi) (by with_unfolding_all rfl) (by rw [show pairS _ 3 = ⟨#[c, d]⟩ from by with_unfolding_all rfl]; exact hj) (by with_unfolding_all rfl) (by rw [show pairS _ 6 = ⟨#[e, f]⟩ from by with_unfolding_all rfl]; exact hk)) rfl).trans ?_
      have hit : Txt.item ⟨#[a, b, 58, c, d, 58, e, f, 46, g1, g2, g3, g4]⟩ 8 = ⟨#[46]⟩ := by with_unfolding_all rfl
      have hall : (Txt.slice ⟨#[a, b, 58, c, d, 58, e, f, 46, g1, g2, g3, g4]⟩ (some (8 + 1)) none).cps.toList.all digQ = true := by
        rw [show Txt.slice ⟨#[a, b, 58, c, d, 58, e, f, 46, g1, g2, g3, g4]⟩ (some (8 + 1)) none = ⟨#[g1, g2, g3, g4]⟩ from by with_unfolding_all rfl]
        simp only [List.all_cons, List.all_nil, Bool.and_true, Bool.and_self, digQ_true q1, digQ_true q2, digQ_true q3, digQ_true q4]
      have hw := digs_some (y := ⟨#[g1, g2, g3, g4]⟩) (l := [g1, g2, g3, g4]) rfl (by simp only [List.forall_mem_cons, List.not_mem_nil, false_implies, implies_true, and_true]; simp only [D1] at *; omega) (by simp) (by simp)
      rw [tail_few (rem := 4) (show (8 : Int) < ((13 : Nat) : Int) by decide) (by rw [hit]; decide +kernel) hall (by decide) (show (4 : Int) = ((13 : Nat) : Int) - (8 + 1) by decide), show Txt.slice ⟨#[a, b, 58, c, d, 58, e, f, 46, g1, g2, g3, g4]⟩ (some (8 + 1)) (some (8 + 1 + 4)) = ⟨#[g1, g2, g3, g4]⟩ from by with_unfolding_all rfl, hw]
      show Except.ok [h, m, s, _ * fcP 4] = _
      rw [show fcP 4 = 100 from rfl]
      have hvv : ((digitsVal [g1, g2, g3, g4] : Nat) : Int) * 100 = ((digitsVal [g1, g2, g3, g4, 48, 48] : Nat) : Int) := by
        simp only [digitsVal, List.foldl_cons, List.foldl_nil]
        omega
      rw [hvv]
  · simp only [List.forall_mem_cons, List.not_mem_nil, false_implies, implies_true, and_true] at hds
    obtain ⟨q1, q2, q3, q4, q5⟩ := hds
    have hv := digs_some (y := ⟨#[g1, g2, g3, g4, g5, 48]⟩) (l := [g1, g2, g3, g4, g5, 48]) rfl (by simp only [List.forall_mem_cons, List.not_mem_nil, false_implies, implies_true, and_true]; simp only [D1] at *; omega) (by simp) (by simp)
    refine ⟨((digitsVal [g1, g2, g3, g4, g5, 48] : Nat) : Int), ?_, textOk_of (l := [a, b, 58, c, d, 58, e, f, 46, g1, g2, g3, g4, g5]) (by with_unfolding_all rfl) (by simp) (by simp only [List.forall_mem_cons, List.not_mem_nil, false_implies, implies_true, and_true]; simp only [D1] at *; omega), ?_⟩
    · rw [show Txt.slice (_ ++ sZ) none (some 6) = ⟨#[g1, g2, g3, g4, g5, 48]⟩ from by with_unfolding_all rfl]
      exact hv
    · rw [show (_ ++ sC ++ _ ++ sC ++ _ ++ PySem.Str.ofString "." ++ _ : PySem.Str) = ⟨#[a, b, 58, c, d, 58, e, f, 46, g1, g2, g3, g4, g5]⟩ from by with_unfolding_all rfl]
      refine (parseP_ok (go3 (by show (8 : Int) ≤ ((14 : Nat) : Int); decide) (by rw [show pairS _ 0 = ⟨#[a, b]⟩ from by with_unfolding_all rfl]; exact hi) (by with_unfolding_all rfl) (by rw [show pairS _ 3 = ⟨#[c, d]⟩ from by with_unfolding_all rfl]; exact hj) (by with_unfolding_all rfl) (by rw [show pairS _ 6 = ⟨#[e, f]⟩ from by with_unfolding_all rfl]; exact hk)) rfl).trans ?_
      have hit : Txt.item ⟨#[a, b, 58, c, d, 58, e, f, 46, g1, g2, g3, g4, g5]⟩ 8 = ⟨#[46]⟩ := by with_unfolding_all rfl
      have hall : (Txt.slice ⟨#[a, b, 58, c, d, 58, e, f, 46, g1, g2, g3, g4, g5]⟩ (some (8 + 1)) none).cps.toList.all digQ = true := by
        rw [show Txt.slice ⟨#[a, b, 58, c, d, 58, e, f, 46, g1, g2, g3, g4, g5]⟩ (some (8 + 1)) none = ⟨#[g1, g2, g3, g4, g5]⟩ from by with_unfolding_all rfl]
        simp only [List.all_cons, List.all_nil, Bool.and_true, Bool.and_self, digQ_true q1, digQ_true q2, digQ_true q3, digQ_true q4, digQ_true q5]
      have hw := digs_some (y := ⟨#[g1, g2, g3, g4, g5]⟩) (l := [g1, g2, g3, g4, g5]) rfl (by simp only [List.forall_mem_cons, List.not_mem_nil, false_implies, implies_true, and_true]; simp only [D1] at *; omega) (by simp) (by simp)
      rw [tail_few (rem := 5) (show (8 : Int) < ((14 : Nat) : Int) by decide) (by rw [hit]; decide +kernel) hall (by decide) (show (5 : Int) = ((14 : Nat) : Int) - (8 + 1) by decide), show Txt.slice ⟨#[a, b, 58, c, d, 58, e, f, 46, g1, g2, g3, g4, g5]⟩ (some (8 + 1)) (some (8 + 1 + 5)) = ⟨#[g1, g2, g3, g4, g5]⟩ from by with_unfolding_all rfl, hw]
      show Except.ok [h, m, s, _ * fcP 5] = _
      rw [show fcP 5 = 10 from rfl]
      have hvv : ((digitsVal [g1, g2, g3, g4, g5] : Nat) : Int) * 10 = ((digitsVal [g1, g2, g3, g4, g5, 48] : Nat) : Int) := by
        simp only [digitsVal, List.foldl_cons, List.foldl_nil]
        omega
      rw [hvv]
  · simp only [List.forall_mem_cons, List.not_mem_nil, false_implies, implies_true, and_true] at hds
    obtain ⟨q1, q2, q3, q4, q5, q6⟩ := hds
    have hv := digs_some (y := ⟨#[g1, g2, g3, g4, g5, g6]⟩) (l := [g1, g2, g3, g4, g5, g6]) rfl (by simp only [List.forall_mem_cons, List.not_mem_nil, false_implies, implies_true, and_true]; simp only [D1] at *; omega) (by simp) (by simp)
    refine ⟨((digitsVal [g1, g2, g3, g4, g5, g6] : Nat) : Int), ?_, textOk_of (l := [a, b, 58, c, d, 58, e, f, 46, g1, g2, g3, g4, g5, g6]) (by with_unfolding_all rfl) (by simp) (by simp only [List.forall_mem_cons, List.not_mem_nil, false_implies, implies_true, and_true]; simp only [D1] at *; omega), ?_⟩
    · rw [show Txt.slice (_ ++ sZ) none (some 6) = ⟨#[g1, g2, g3, g4, g5, g6]⟩ from by with_unfolding_all rfl]
      exact hv
    · rw [show (_ ++ sC ++ _ ++ sC ++ _ ++ PySem.Str.ofString "." ++ _ : PySem.Str) = ⟨#[a, b, 58, c, d, 58, e, f, 46, g1, g2, g3, g4, g5, g6]⟩ from by with_unfolding_all rfl]
      refine (parseP_ok (go3 (by show (8 : Int) ≤ ((15 : Nat) : Int); decide) (by rw [show pairS _ 0 = ⟨#[a, b]⟩ from by with_unfolding_all rfl]; exact hi) (by with_unfolding_all rfl) (by rw [show pairS _ 3 = ⟨#[c, d]⟩ from by with_unfolding_all rfl]; exact hj) (by with_unfolding_all rfl) (by rw [show pairS _ 6 = ⟨#[e, f]⟩ from by with_unfolding_all rfl]; exact hk)) rfl).trans ?_
      have hit : Txt.item ⟨#[a, b, 58, c, d, 58, e, f, 46, g1, g2, g3, g4, g5, g6]⟩ 8 = ⟨#[46]⟩ := by with_unfolding_all rfl
      have hall : (Txt.slice ⟨#[a, b, 58, c, d, 58, e, f, 46, g1, g2, g3, g4, g5, g6]⟩ (some (8 + 1)) none).cps.toList.all digQ = true := by
        rw [show Txt.slice ⟨#[a, b, 58, c, d, 58, e, f, 46, g1, g2, g3, g4, g5, g6]⟩ (some (8 + 1)) none = ⟨#[g1, g2, g3, g4, g5, g6]⟩ from by with_unfolding_all rfl]
        simp only [List.all_cons, List.all_nil, Bool.and_true, Bool.and_self, digQ_true q1, digQ_true q2, digQ_true q3, digQ_true q4, digQ_true q5, digQ_true q6]
      rw [tail_six (show (8 : Int) < ((15 : Nat) : Int) by decide) (by rw [hit]; decide +kernel) hall (show (6 : Int) ≤ ((15 : Nat) : Int) - (8 + 1) by decide), show Txt.slice ⟨#[a, b, 58, c, d, 58, e, f, 46, g1, g2, g3, g4, g5, g6]⟩ (some (8 + 1)) (some (8 + 1 + 6)) = ⟨#[g1, g2, g3, g4, g5, g6]⟩ from by with_unfolding_all rfl, hv]
      show Except.ok [h, m, s, _ * 1] = _
      rw [Int.mul_one]
  · simp only [List.forall_mem_cons, List.not_mem_nil, false_implies, implies_true, and_true] at hds
    obtain ⟨q1, q2, q3, q4, q5, q6, q7⟩ := hds
    have hv := digs_some (y := ⟨#[g1, g2, g3, g4, g5, g6]⟩) (l := [g1, g2, g3, g4, g5, g6]) rfl (by simp only [List.forall_mem_cons, List.not_mem_nil, false_implies, implies_true, and_true]; simp only [D1] at *; omega) (by simp) (by simp)
    refine ⟨((digitsVal [g1, g2, g3, g4, g5, g6] : Nat) : Int), ?_, textOk_of (l := [a, b, 58, c, d, 58, e, f, 46, g1, g2, g3, g4, g5, g6, g7]) (by with_unfolding_all rfl) (by simp) (by simp only [List.forall_mem_cons, List.not_mem_nil, false_implies, implies_true, and_true]; simp only [D1] at *; omega), ?_⟩
    · rw [show Txt.slice (_ ++ sZ) none (some 6) = ⟨#[g1, g2, g3, g4, g5, g6]⟩ from by with_unfolding_all rfl]
      exact hv
    · rw [show (_ ++ sC ++ _ ++ sC ++ _ ++ PySem.Str.ofString "." ++ _ : PySem.Str) = ⟨#[a, b, 58, c, d, 58, e, f, 46, g1, g2, g3, g4, g5, g6, g7]⟩ from by with_unfolding_all rfl]
      refine (parseP_ok (go3 (by show (8 : Int) ≤ ((16 : Nat) : Int); decide) (by rw [show pairS _ 0 = ⟨#[a, b]⟩ from by with_unfolding_all rfl]; exact hi) (by with_unfolding_all rfl) (by rw [show pairS _ 3 = ⟨#[c, d]⟩ from by with_unfolding_all rfl]; exact hj) (by with_unfolding_all rfl) (by rw [show pairS _ 6 = ⟨#[e, f]⟩ from by with_unfolding_all rfl]; exact hk)) rfl).trans ?_
      have hit : Txt.item ⟨#[a, b, 58, c, d, 58, e, f, 46, g1, g2, g3, g4, g5, g6, g7]⟩ 8 = ⟨#[46]⟩ := by with_unfolding_all rfl
      have hall : (Txt.slice ⟨#[a, b, 58, c, d, 58, e, f, 46, g1, g2, g3, g4, g5, g6, g7]⟩ (some (8 + 1)) none).cps.toList.all digQ = true := by
        rw [show Txt.slice ⟨#[a, b, 58, c, d, 58, e, f, 46, g1, g2, g3, g4, g5, g6, g7]⟩ (some (8 + 1)) none = ⟨#[g1, g2, g3, g4, g5, g6, g7]⟩ from by with_unfolding_all rfl]
        simp only [List.all_cons, List.all_nil, Bool.and_true, Bool.and_self, digQ_true q1, digQ_true q2, digQ_true q3, digQ_true q4, digQ_true q5, digQ_true q6, digQ_true q7]
      rw [tail_six (show (8 : Int) < ((16 : Nat) : Int) by decide) (by rw [hit]; decide +kernel) hall (show (6 : Int) ≤ ((16 : Nat) : Int) - (8 + 1) by decide), show Txt.slice ⟨#[a, b, 58, c, d, 58, e, f, 46, g1, g2, g3, g4, g5, g6, g7]⟩ (some (8 + 1)) (some (8 + 1 + 6)) = ⟨#[g1, g2, g3, g4, g5, g6]⟩ from by with_unfolding_all rfl, hv]
      show Except.ok [h, m, s, _ * 1] = _
      rw [Int.mul_one]
  · simp only [List.forall_mem_cons, List.not_mem_nil, false_implies, implies_true, and_true] at hds
    obtain ⟨q1, q2, q3, q4, q5, q6, q7, q8⟩ := hds
    have hv := digs_some (y := ⟨#[g1, g2, g3, g4, g5, g6]⟩) (l := [g1, g2, g3, g4, g5, g6]) rfl (by simp only [List.forall_mem_cons, List.not_mem_nil, false_implies, implies_true, and_true]; simp only [D1] at *; omega) (by simp) (by simp)
    refine ⟨((digitsVal [g1, g2, g3, g4, g5, g6] : Nat) : Int), ?_, textOk_of (l := [a, b, 58, c, d, 58, e, f, 46, g1, g2, g3, g4, g5, g6, g7, g8]) (by with_unfolding_all rfl) (by simp) (by simp only [List.forall_mem_cons, List.not_mem_nil, false_implies, implies_true, and_true]; simp only [D1] at *; omega), ?_⟩
    · rw [show Txt.slice (_ ++ sZ) none (some 6) = ⟨#[g1, g2, g3, g4, g5, g6]⟩ from by with_unfolding_all rfl]
      exact hv
    · rw [show (_ ++ sC ++ _ ++ sC ++ _ ++ PySem.Str.ofString "." ++ _ : PySem.Str) = ⟨#[a, b, 58, c, d, 58, e, f, 46, g1, g2, g3, g4, g5, g6, g7, g8]⟩ from by with_unfolding_all rfl]
      refine (parseP_ok (go3 (by show (8 : Int) ≤ ((17 : Nat) : Int); decide) (by rw [show pairS _ 0 = ⟨#[a, b]⟩ from by with_unfolding_all rfl]; exact hi) (by with_unfolding_all rfl) (by rw [show pairS _ 3 = ⟨#[c, d]⟩ from by with_unfolding_all rfl]; exact hj) (by with_unfolding_all rfl) (by rw [show pairS _ 6 = ⟨#[e, f]⟩ from by with_unfolding_all rfl]; exact hk)) rfl).trans ?_
      have hit : Txt.item ⟨#[a, b, 58, c, d, 58, e, f, 46, g1, g2, g3, g4, g5, g6, g7, g8]⟩ 8 = ⟨#[46]⟩ := by with_unfolding_all rfl
      have hall : (Txt.slice ⟨#[a, b, 58, c, d, 58, e, f, 46, g1, g2, g3, g4, g5, g6, g7, g8]⟩ (some (8 + 1)) none).cps.toList.all digQ = true := by
        rw [show Txt.slice ⟨#[a, b, 58, c, d, 58, e, f, 46, g1, g2, g3, g4, g5, g6, g7, g8]⟩ (some (8 + 1)) none = ⟨#[g1, g2, g3, g4, g5, g6, g7, g8]⟩ from by with_unfolding_all rfl]
        simp only [List.all_cons, List.all_nil, Bool.and_true, Bool.and_self, digQ_true q1, digQ_true q2, digQ_true q3, digQ_true q4, digQ_true q5, digQ_true q6, digQ_true q7, digQ_true q8]
      rw [tail_six (show (8 : Int) < ((17 : Nat) : Int) by decide) (by rw [hit]; decide +kernel) hall (show (6 : Int) ≤ ((17 : Nat) : Int) - (8 + 1) by decide), show Txt.slice ⟨#[a, b, 58, c, d, 58, e, f, 46, g1, g2, g3, g4, g5, g6, g7, g8]⟩ (some (8 + 1)) (some (8 + 1 + 6)) = ⟨#[g1, g2, g3, g4, g5, g6]⟩ from by with_unfolding_all rfl, hv]
      show Except.ok [h, m, s, _ * 1] = _
      rw [Int.mul_one]
  · simp only [List.forall_mem_cons, List.not_mem_nil, false_implies, implies_true, and_true] at hds
    obtain ⟨q1, q2, q3, q4, q5, q6, q7, q8, q9⟩ := hds
    have hv := digs_some (y := ⟨#[g1, g2, g3, g4, g5, g6]⟩) (l := [g1, g2, g3, g4, g5, g6]) rfl (by simp only [List.forall_mem_cons, List.not_mem_nil, false_implies, implies_true, and_true]; simp only [D1] at *; omega) (by simp) (by simp)
    refine ⟨((digitsVal [g1, g2, g3, g4, g5, g6] : Nat) : Int), ?_, textOk_of (l := [a, b, 58, c, d, 58, e, f, 46, g1, g2, g3, g4, g5, g6, g7, g8, g9]) (by with_unfolding_all rfl) (by simp) (by simp only [List.forall_mem_cons, List.not_mem_nil, false_implies, implies_true, and_true]; simp only [D1] at *; omega), ?_⟩
    · rw [show Txt.slice (_ ++ sZ) none (some 6) = ⟨#[g1, g2, g3, g4, g5, g6]⟩ from by with_unfolding_all rfl]
      exact hv
    · rw [show (_ ++ sC ++ _ ++ sC ++ _ ++ PySem.Str.ofString "." ++ _ : PySem.Str) = ⟨#[a, b, 58, c, d, 58, e, f, 46, g1, g2, g3, g4, g5, g6, g7, g8, g9]⟩ from by with_unfolding_all rfl]
      refine (parseP_ok (go3 (by show (8 : Int) ≤ ((18 : Nat) : Int); decide) (by rw [show pairS _ 0 = ⟨#[a, b]⟩ from by with_unfolding_all rfl]; exact hi) (by with_unfolding_all rfl) (by rw [show pairS _ 3 = ⟨#[c, d]⟩ from by with_unfolding_all rfl]; exact hj) (by with_unfolding_all rfl) (by rw [show pairS _ 6 = ⟨#[e, f]⟩ from by with_unfolding_all rfl]; exact hk)) rfl).trans ?_
      have hit : Txt.item ⟨#[a, b, 58, c, d, 58, e, f, 46, g1, g2, g3, g4, g5, g6, g7, g8, g9]⟩ 8 = ⟨#[46]⟩ := by with_unfolding_all rfl
      have hall : (Txt.slice ⟨#[a, b, 58, c, d, 58, e, f, 46, g1, g2, g3, g4, g5, g6, g7, g8, g9]⟩ (some (8 + 1)) none).cps.toList.all digQ = true := by
        rw [show Txt.slice ⟨#[a, b, 58, c, d, 58, e, f, 46, g1, g2, g3, g4, g5, g6, g7, g8, g9]⟩ (some (8 + 1)) none = ⟨#[g1, g2, g3, g4, g5, g6, g7, g8, g9]⟩ from by with_unfolding_all rfl]
        simp only [List.all_cons, List.all_nil, Bool.and_true, Bool.and_self, digQ_true q1, digQ_true q2, digQ_true q3, digQ_true q4, digQ_true q5, digQ_true q6, digQ_true q7, digQ_true q8, digQ_true q9]
      rw [tail_six (show (8 : Int) < ((18 : Nat) : Int) by decide) (by rw [hit]; decide +kernel) hall (show (6 : Int) ≤ ((18 : Nat) : Int) - (8 + 1) by decide), show Txt.slice ⟨#[a, b, 58, c, d, 58, e, f, 46, g1, g2, g3, g4, g5, g6, g7, g8, g9]⟩ (some (8 + 1)) (some (8 + 1 + 6)) = ⟨#[g1, g2, g3, g4, g5, g6]⟩ from by with_unfolding_all rfl, hv]
      show Except.ok [h, m, s, _ * 1] = _
      rw [Int.mul_one]
  · simp only [List.length_cons] at hl2
    omega
end
end Mine
end
section
open PySem PySem.W PyProof.Rows PySem.Calls PySem.Builtin PySem.Builtin.Str PySem.NumText
set_option maxRecDepth 100000
set_option maxHeartbeats 4000000
namespace Mine
theorem ne_table : ∀ k : Fin 10, ((⟨#[48 + k.1]⟩ : PySem.Str) == PySem.Str.ofString ":") = false := by decide +kernel
theorem ne_colon {c : Nat} (h : D1 c) : ((⟨#[c]⟩ : PySem.Str) == PySem.Str.ofString ":") = false := by
  have := ne_table ⟨c - 48, by omega⟩
  rwa [show 48 + (c - 48) = c by omega] at this
theorem digQ_x : digQ 120 = false := by decide +kernel
section
variable {hh mm ss fg : PySem.Str} {h m s : Int}
theorem page1 (h1 : TwoIs hh h) (h2 : TwoIs mm m) (h3 : TwoIs ss s) : TextOk (hh ++ mm ++ ss) ∧ parseP (hh ++ mm ++ ss) = .ok [h, m, s, 0] := by
  obtain ⟨a, b, rfl, ha, hb, hi⟩ := h1
  obtain ⟨c, d, rfl, hc, hd, hj⟩ := h2
  obtain ⟨e, f, rfl, he, hf, hk⟩ := h3
  refine ⟨textOk_of (l := [a, b, c, d, e, f]) (by with_unfolding_all rfl) (by simp) (by simp only [List.forall_mem_cons, List.not_mem_nil, false_implies, implies_true, and_true]; simp only [D1] at *; omega), ?_⟩
  rw [show (_ ++ _ ++ _ : PySem.Str) = ⟨#[a, b, c, d, e, f]⟩ from by with_unfolding_all rfl]
  have x2 : nextS ⟨#[a, b, c, d, e, f]⟩ 2 = ⟨#[c]⟩ := by with_unfolding_all rfl
  have x4 : nextS ⟨#[a, b, c, d, e, f]⟩ 4 = ⟨#[e]⟩ := by with_unfolding_all rfl
  refine (parseP_ok (go3n (by show (6 : Int) ≤ ((6 : Nat) : Int); decide) (by rw [show pairS _ 0 = ⟨#[a, b]⟩ from by with_unfolding_all rfl]; exact hi) (by rw [x2]; rfl) (by rw [x2]; exact ne_colon hc) (by rw [show pairS _ 2 = ⟨#[c, d]⟩ from by with_unfolding_all rfl]; exact hj) (by rw [x4]; rfl) (by rw [show pairS _ 4 = ⟨#[e, f]⟩ from by with_unfolding_all rfl]; exact hk)) rfl).trans ?_
  exact tail_end (show ¬ (6 : Int) < ((6 : Nat) : Int) by decide)
theorem page2 (h1 : TwoIs hh h) (h2 : TwoIs mm m) (h3 : TwoIs ss s) : TextOk (hh ++ sC ++ mm) ∧ parseP (hh ++ sC ++ mm) = .ok [h, m, 0, 0] := by
  obtain ⟨a, b, rfl, ha, hb, hi⟩ := h1
  obtain ⟨c, d, rfl, hc, hd, hj⟩ := h2
  obtain ⟨e, f, rfl, he, hf, hk⟩ := h3
  refine ⟨textOk_of (l := [a, b, 58, c, d]) (by with_unfolding_all rfl) (by simp) (by simp only [List.forall_mem_cons, List.not_mem_nil, false_implies, implies_true, and_true]; simp only [D1] at *; omega), ?_⟩
  rw [show (_ ++ sC ++ _ : PySem.Str) = ⟨#[a, b, 58, c, d]⟩ from by with_unfolding_all rfl]
  refine (parseP_ok (go2 (by show ((5 : Nat) : Int) = 5; decide) (by rw [show pairS _ 0 = ⟨#[a, b]⟩ from by with_unfolding_all rfl]; exact hi) (by with_unfolding_all rfl) (by rw [show pairS _ 3 = ⟨#[c, d]⟩ from by with_unfolding_all rfl]; exact hj) (by rw [show nextS ⟨#[a, b, 58, c, d]⟩ 5 = ⟨#[]⟩ from by with_unfolding_all rfl]; rfl)) rfl).trans ?_
  exact tail_end (show ¬ (5 : Int) < ((5 : Nat) : Int) by decide)
theorem page3 (h1 : TwoIs hh h) (h2 : TwoIs mm m) (h3 : TwoIs ss s) : TextOk (hh ++ sC ++ mm ++ sC ++ Txt.slice ss none (some 1)) ∧ parseP (hh ++ sC ++ mm ++ sC ++ Txt.slice ss none (some 1)) = .error (PySem.Str.ofString "Incomplete time component") := by
  obtain ⟨a, b, rfl, ha, hb, hi⟩ := h1
  obtain ⟨c, d, rfl, hc, hd, hj⟩ := h2
  obtain ⟨e, f, rfl, he, hf, hk⟩ := h3
  refine ⟨textOk_of (l := [a, b, 58, c, d, 58, e]) (by with_unfolding_all rfl) (by simp) (by simp only [List.forall_mem_cons, List.not_mem_nil, false_implies, implies_true, and_true]; simp only [D1] at *; omega), ?_⟩
  rw [show (_ ++ sC ++ _ ++ sC ++ Txt.slice _ none (some 1) : PySem.Str) = ⟨#[a, b, 58, c, d, 58, e]⟩ from by with_unfolding_all rfl]
  exact parseP_err (go2t (by show ((7 : Nat) : Int) = 7; decide) (by rw [show pairS _ 0 = ⟨#[a, b]⟩ from by with_unfolding_all rfl]; exact hi) (by with_unfolding_all rfl) (by rw [show pairS _ 3 = ⟨#[c, d]⟩ from by with_unfolding_all rfl]; exact hj) (by with_unfolding_all rfl))
theorem page4 (h1 : TwoIs hh h) (h2 : TwoIs mm m) (h3 : TwoIs ss s) : TextOk (hh ++ sC ++ mm ++ PySem.Str.ofString ";" ++ ss) ∧ parseP (hh ++ sC ++ mm ++ PySem.Str.ofString ";" ++ ss) = .error (PySem.Str.ofString "Invalid time separator: ;") := by
  obtain ⟨a, b, rfl, ha, hb, hi⟩ := h1
  obtain ⟨c, d, rfl, hc, hd, hj⟩ := h2
  obtain ⟨e, f, rfl, he, hf, hk⟩ := h3
  refine ⟨textOk_of (l := [a, b, 58, c, d, 59, e, f]) (by with_unfolding_all rfl) (by simp) (by simp only [List.forall_mem_cons, List.not_mem_nil, false_implies, implies_true, and_true]; simp only [D1] at *; omega), ?_⟩
  rw [show (_ ++ sC ++ _ ++ PySem.Str.ofString ";" ++ _ : PySem.Str) = ⟨#[a, b, 58, c, d, 59, e, f]⟩ from by with_unfolding_all rfl]
  exact parseP_err (go2s (by show (6 : Int) ≤ ((8 : Nat) : Int); decide) (by rw [show pairS _ 0 = ⟨#[a, b]⟩ from by with_unfolding_all rfl]; exact hi) (by with_unfolding_all rfl) (by rw [show pairS _ 3 = ⟨#[c, d]⟩ from by with_unfolding_all rfl]; exact hj) (by with_unfolding_all rfl))
theorem page7 (h1 : TwoIs hh h) (h2 : TwoIs mm m) (h3 : TwoIs ss s) : TextOk (hh ++ sC ++ mm ++ PySem.Str.ofString ":x" ++ Txt.slice ss (some 1) none) ∧ parseP (hh ++ sC ++ mm ++ PySem.Str.ofString ":x" ++ Txt.slice ss (some 1) none) = (.error (PySem.Str.ofString "invalid literal for int() with base 10: 'x" ++ Txt.slice ss (some 1) none ++ PySem.Str.ofString "'") : Except PySem.Str (List Int)) := by
  obtain ⟨a, b, rfl, ha, hb, hi⟩ := h1
  obtain ⟨c, d, rfl, hc, hd, hj⟩ := h2
  obtain ⟨e, f, rfl, he, hf, hk⟩ := h3
  refine ⟨textOk_of (l := [a, b, 58, c, d, 58, 120, f]) (by with_unfolding_all rfl) (by simp) (by simp only [List.forall_mem_cons, List.not_mem_nil, false_implies, implies_true, and_true]; simp only [D1] at *; omega), ?_⟩
  rw [show (_ ++ sC ++ _ ++ PySem.Str.ofString ":x" ++ Txt.slice _ (some 1) none : PySem.Str) = ⟨#[a, b, 58, c, d, 58, 120, f]⟩ from by with_unfolding_all rfl]
  have hp : pairS ⟨#[a, b, 58, c, d, 58, 120, f]⟩ 6 = ⟨#[120, f]⟩ := by with_unfolding_all rfl
  obtain ⟨b1, b2⟩ := bad_pair hf
  refine (parseP_err (go2b (by show (8 : Int) ≤ ((8 : Nat) : Int); decide) (by rw [show pairS _ 0 = ⟨#[a, b]⟩ from by with_unfolding_all rfl]; exact hi) (by with_unfolding_all rfl) (by rw [show pairS _ 3 = ⟨#[c, d]⟩ from by with_unfolding_all rfl]; exact hj) (by with_unfolding_all rfl) (by rw [hp]; exact b1))).trans ?_
  rw [hp, b2, show Txt.slice ⟨#[e, f]⟩ (some 1) none = ⟨#[f]⟩ from by with_unfolding_all rfl]
theorem page5 (h1 : TwoIs hh h) (h2 : TwoIs mm m) (h3 : TwoIs ss s) (h4 : FigIs fg) : TextOk (hh ++ sC ++ mm ++ sC ++ ss ++ PySem.Str.ofString ";" ++ fg) ∧ parseP (hh ++ sC ++ mm ++ sC ++ ss ++ PySem.Str.ofString ";" ++ fg) = .error (PySem.Str.ofString "Invalid microsecond component") := by
  obtain ⟨a, b, rfl, ha, hb, hi⟩ := h1
  obtain ⟨c, d, rfl, hc, hd, hj⟩ := h2
  obtain ⟨e, f, rfl, he, hf, hk⟩ := h3
  obtain ⟨ds, hds, hl1, hl2, rfl⟩ := h4
  rcases ds with _ | ⟨g1, _ | ⟨g2, _ | ⟨g3, _ | ⟨g4, _ | ⟨g5, _ | ⟨g6, _ | ⟨g7, _ | ⟨g8, _ | ⟨g9, _ | ⟨g10, r⟩⟩⟩⟩⟩⟩⟩⟩⟩⟩
  · exact absurd hl1 (by decide)
  · simp only [List.forall_mem_cons, List.not_mem_nil, false_implies, implies_true, and_true] at hds
    have q1 := hds
    refine ⟨textOk_of (l := [a, b, 58, c, d, 58, e, f, 59, g1]) (by with_unfolding_all rfl) (by simp) (by simp only [List.forall_mem_cons, List.not_mem_nil, false_implies, implies_true, and_true]; simp only [D1] at *; omega), ?_⟩
    rw [show (_ ++ sC ++ _ ++ sC ++ _ ++ PySem.Str.ofString ";" ++ _ : PySem.Str) = ⟨#[a, b, 58, c, d, 58, e, f, 59, g1]⟩ from by with_unfolding_all rfl]
    refine (parseP_ok (go3 (by show (8 : Int) ≤ ((10 : Nat) : Int); decide) (by rw [show pairS _ 0 = ⟨#[a, b]⟩ from by with_unfolding_all rfl]; exact hi) (by with_unfolding_all rfl) (by rw [show pairS _ 3 = ⟨#[c, d]⟩ from by with_unfolding_all rfl]; exact hj) (by with_unfolding_all rfl) (by rw [show pairS _ 6 = ⟨#[e, f]⟩ from by with_unfolding_all rfl]; exact hk)) rfl).trans ?_
    have hit : Txt.item ⟨#[a, b, 58, c, d, 58, e, f, 59, g1]⟩ 8 = ⟨#[59]⟩ := by with_unfolding_all rfl
    exact tail_mark (show (8 : Int) < ((10 : Nat) : Int) by decide) (by rw [hit]; decide +kernel)
  · simp only [List.forall_mem_cons, List.not_mem_nil, false_implies, implies_true, and_true] at hds
    obtain ⟨q1, q2⟩ := hds
    refine ⟨textOk_of (l := [a, b, 58, c, d, 58, e, f, 59, g1, g2]) (by with_unfolding_all rfl) (by simp) (by simp only [List.forall_mem_cons, List.not_mem_nil, false_implies, implies_true, and_true]; simp only [D1] at *; omega), ?_⟩
    rw [show (_ ++ sC ++ _ ++ sC ++ _ ++ PySem.Str.ofString ";" ++ _ : PySem.Str) = ⟨#[a, b, 58, c, d, 58, e, f, 59, g1, g2]⟩ from by with_unfolding_all rfl]
    refine (parseP_ok (go3 (by show (8 : Int) ≤ ((11 : Nat) : Int); decide) (by rw [show pairS _ 0 = ⟨#[a, b]⟩ from by with_unfolding_all rfl]; exact hi) (by with_unfolding_all rfl) (by rw [show pairS _ 3 = ⟨#[c, d]⟩ from by with_unfolding_all rfl]; exact hj) (by with_unfolding_all rfl) (by rw [show pairS _ 6 = ⟨#[e, f]⟩ from by with_unfolding_all rfl]; exact hk)) rfl).trans ?_
    have hit : Txt.item ⟨#[a, b, 58, c, d, 58, e, f, 59, g1, g2]⟩ 8 = ⟨#[59]⟩ := by with_unfolding_all rfl
    exact tail_mark (show (8 : Int) < ((11 : Nat) : Int) by decide) (by rw [hit]; decide +kernel)
  · simp only [List.forall_mem_cons, List.not_mem_nil, false_implies, implies_true, and_true] at hds
    obtain ⟨q1, q2, q3⟩ := hds
    refine ⟨textOk_of (l := [a, b, 58, c, d, 58, e, f, 59, g1, g2, g3]) (by with_unfolding_all rfl) (by simp) (by simp only [List.forall_mem_cons, List.not_mem_nil, false_implies, implies_true, and_true]; simp only [D1] at *; omega), ?_⟩
    rw [show (_ ++ sC ++ _ ++ sC ++ _ ++ PySem.Str.ofString ";" ++ _ : PySem.Str) = ⟨#[a, b, 58, c, d, 58, e, f, 59, g1, g2, g3]⟩ from by with_unfolding_all rfl]
    refine (parseP_ok (go3 (by show (8 : Int) ≤ ((12 : Nat) : Int); decide) (by rw [show pairS _ 0 = ⟨#[a, b]⟩ from by with_unfolding_all rfl]; exact hi) (by with_unfolding_all rfl) (by rw [show pairS _ 3 = ⟨#[c, d]⟩ from by with_unfolding_all rfl]; exact hj) (by with_unfolding_all rfl) (by rw [show pairS _ 6 = ⟨#[e, f]⟩ from by with_unfolding_all rfl]; exact hk)) rfl).trans ?_
    have hit : Txt.item ⟨#[a, b, 58, c, d, 58, e, f, 59, g1, g2, g3]⟩ 8 = ⟨#[59]⟩ := by with_unfolding_all rfl
    exact tail_mark (show (8 : Int) < ((12 : Nat) : Int) by decide) (by rw [hit]; decide +kernel)
  · simp only [List.forall_mem_cons, List.not_mem_nil, false_implies, implies_true, and_true] at hds
    obtain ⟨q1, q2, q3, q4⟩ := hds
    refine ⟨textOk_of (l := [a, b, 58, c, d, 58, e, f, 59, g1, g2, g3, g4]) (by with_unfolding_all rfl) (by simp) (by simp only [List.forall_mem_cons, List.not_mem_nil, false_implies, implies_true, and_true]; simp only [D1] at *; omega), ?_⟩
    rw [show (_ ++ sC ++ _ ++ sC ++ _ ++ PySem.Str.ofString ";" ++ _ : PySem.Str) = ⟨#[a, b, 58, c, d, 58, e, f, 59, g1, g2, g3, g4]⟩ from by with_unfolding_all rfl]
    refine (parseP_ok (go3 (by show (8 : Int) ≤ ((13 : Nat) : Int); decide) (by rw [show pairS _ 0 = ⟨#[a, b]⟩ from by with_unfolding_all rfl]; exact hi) (by with_unfolding_all rfl) (by rw [show pairS _ 3 = ⟨#[c, d]⟩ from by with_unfolding_all rfl]; exact hj) (by with_unfolding_all rfl) (by rw [show pairS _ 6 = ⟨#[e, f]⟩ from by with_unfolding_all rfl]; exact hk)) rfl).trans ?_
    have hit : Txt.item ⟨#[a, b, 58, c, d, 58, e, f, 59, g1, g2, g3, g4]⟩ 8 = ⟨#[59]⟩ := by with_unfolding_all rfl
    exact tail_mark (show (8 : Int) < ((13 : Nat) : Int) by decide) (by rw [hit]; decide +kernel)
  · simp only [List.forall_mem_cons, List.not_mem_nil, false_implies, implies_true, and_true] at hds
    obtain ⟨q1, q2, q3, q4, q5⟩ := hds
    refine ⟨textOk_of (l := [a, b, 58, c, d, 58, e, f, 59, g1, g2, g3, g4, g5]) (by with_unfolding_all rfl) (by simp) (by simp only [List.forall_mem_cons, List.not_mem_nil, false_implies, implies_true, and_true]; simp only [D1] at *; omega), ?_⟩
    rw [show (_ ++ sC ++ _ ++ sC ++ _ ++ PySem.Str.ofString ";" ++ _ : PySem.Str) = ⟨#[a, b, 58, c, d, 58, e, f, 59, g1, g2, g3, g4, g5]⟩ from by with_unfolding_all rfl]
    refine (parseP_ok (go3 (by show (8 : Int) ≤ ((14 : Nat) : Int); decide) (by rw [show pairS _ 0 = ⟨#[a, b]⟩ from by with_unfolding_all rfl]; exact hi) (by with_unfolding_all rfl) (by rw [show pairS _ 3 = ⟨#[c, d]⟩ from by with_unfolding_all rfl]; exact hj) (by with_unfolding_all rfl) (by rw [show pairS _ 6 = ⟨#[e, f]⟩ from by with_unfolding_all rfl]; exact hk)) rfl).trans ?_
    have hit : Txt.item ⟨#[a, b, 58, c, d, 58, e, f, 59, g1, g2, g3, g4, g5]⟩ 8 = ⟨#[59]⟩ := by with_unfolding_all rfl
    exact tail_mark (show (8 : Int) < ((14 : Nat) : Int) by decide) (by rw [hit]; decide +kernel)
  · simp only [List.forall_mem_cons, List.not_mem_nil, false_implies, implies_true, and_true] at hds
    obtain ⟨q1, q2, q3, q4, q5, q6⟩ := hds
    refine ⟨textOk_of (l := [a, b, 58, c, d, 58, e, f, 59, g1, g2, g3, g4, g5, g6]) (by with_unfolding_all rfl) (by simp) (by simp only [List.forall_mem_cons, List.not_mem_nil, false_implies, implies_true, and_true]; simp only [D1] at *; omega), ?_⟩
    rw [show (_ ++ sC ++ _ ++ sC ++ _ ++ PySem.Str.ofString ";" ++ _ : PySem.Str) = ⟨#[a, b, 58, c, d, 58, e, f, 59, g1, g2, g3, g4, g5, g6]⟩ from by with_unfolding_all rfl]
    refine (parseP_ok (go3 (by show (8 : Int) ≤ ((15 : Nat) : Int); decide) (by rw [show pairS _ 0 = ⟨#[a, b]⟩ from by with_unfolding_all rfl]; exact hi) (by with_unfolding_all rfl) (by rw [show pairS _ 3 = ⟨#[c, d]⟩ from by with_unfolding_all rfl]; exact hj) (by with_unfolding_all rfl) (by rw [show pairS _ 6 = ⟨#[e, f]⟩ from by with_unfolding_all rfl]; exact hk)) rfl).trans ?_
    have hit : Txt.item ⟨#[a, b, 58, c, d, 58, e, f, 59, g1, g2, g3, g4, g5, g6]⟩ 8 = ⟨#[59]⟩ := by with_unfolding_all rfl
    exact tail_mark (show (8 : Int) < ((15 : Nat) : Int) by decide) (by rw [hit]; decide +kernel)
  · simp only [List.forall_mem_cons, List.not_mem_nil, false_implies, implies_true, and_true] at hds
    obtain ⟨q1, q2, q3, q4, q5, q6, q7⟩ := hds
    refine ⟨textOk_of (l := [a, b, 58, c, d, 58, e, f, 59, g1, g2, g3, g4, g5, g6, g7]) (by with_unfolding_all rfl) (by simp) (by simp only [List.forall_mem_cons, List.not_mem_nil, false_implies, implies_true, and_true]; simp only [D1] at *; omega), ?_⟩
    rw [show (_ ++ sC ++ _ ++ sC ++ _ ++ PySem.Str.ofString ";" ++ _ : PySem.Str) = ⟨#[a, b, 58, c, d, 58, e, f, 59, g1, g2, g3, g4, g5, g6, g7]⟩ from by with_unfolding_all rfl]
    refine (parseP_ok (go3 (by show (8 : Int) ≤ ((16 : Nat) : Int); decide) (by rw [show pairS _ 0 = ⟨#[a, b]⟩ from by with_unfolding_all rfl]; exact hi) (by with_unfolding_all rfl) (by rw [show pairS _ 3 = ⟨#[c, d]⟩ from by with_unfolding_all rfl]; exact hj) (by with_unfolding_all rfl) (by rw [show pairS _ 6 = ⟨#[e, f]⟩ from by with_unfolding_all rfl]; exact hk)) rfl).trans ?_
    have hit : Txt.item ⟨#[a, b, 58, c, d, 58, e, f, 59, g1, g2, g3, g4, g5, g6, g7]⟩ 8 = ⟨#[59]⟩ := by with_unfolding_all rfl
    exact tail_mark (show (8 : Int) < ((16 : Nat) : Int) by decide) (by rw [hit]; decide +kernel)
  · simp only [List.forall_mem_cons, List.not_mem_nil, false_implies, implies_true, and_true] at hds
    obtain ⟨q1, q2, q3, q4, q5, q6, q7, q8⟩ := hds
    refine ⟨textOk_of (l := [a, b, 58, c, d, 58, e, f, 59, g1, g2, g3, g4, g5, g6, g7, g8]) (by with_unfolding_all rfl) (by simp) (by simp only [List.forall_mem_cons, List.not_mem_nil, false_implies, implies_true, and_true]; simp only [D1] at *; omega), ?_⟩
    rw [show (_ ++ sC ++ _ ++ sC ++ _ ++ PySem.Str.ofString ";" ++ _ : PySem.Str) = ⟨#[a, b, 58, c, d, 58, e, f, 59, g1, g2, g3, g4, g5, g6, g7, g8]⟩ from by with_unfolding_all rfl]
    refine (parseP_ok (go3 (by show (8 : Int) ≤ ((17 : Nat) : Int); decide) (by rw [show pairS _ 0 = ⟨#[a, b]⟩ from by with_unfolding_all rfl]; exact hi) (by with_unfolding_all rfl) (by rw [show pairS _ 3 = ⟨#[c, d]⟩ from by with_unfolding_all rfl]; exact hj) (by with_unfolding_all rfl) (by rw [show pairS _ 6 = ⟨#[e, f]⟩ from by with_unfolding_all rfl]; exact hk)) rfl).trans ?_
    have hit : Txt.item ⟨#[a, b, 58, c, d, 58, e, f, 59, g1, g2, g3, g4, g5, g6, g7, g8]⟩ 8 = ⟨#[59]⟩ := by with_unfolding_all rfl
    exact tail_mark (show (8 : Int) < ((17 : Nat) : Int) by decide) (by rw [hit]; decide +kernel)
  · simp only [List.forall_mem_cons, List.not_mem_nil, false_implies, implies_true, and_true] at hds
    obtain ⟨q1, q2, q3, q4, q5, q6, q7, q8, q9⟩ := hds
    refine ⟨textOk_of (l := [a, b, 58, c, d, 58, e, f, 59, g1, g2, g3, g4, g5, g6, g7, g8, g9]) (by with_unfolding_all rfl) (by simp) (by simp only [List.forall_mem_cons, List.not_mem_nil, false_implies, implies_true, and_true]; simp only [D1] at *; omega), ?_⟩
    rw [show (_ ++ sC ++ _ ++ sC ++ _ ++ PySem.Str.ofString ";" ++ _ : PySem.Str) = ⟨#[a, b, 58, c, d, 58, e, f, 59, g1, g2, g3, g4, g5, g6, g7, g8, g9]⟩ from by with_unfolding_all rfl]
    refine (parseP_ok (go3 (by show (8 : Int) ≤ ((18 : Nat) : Int); decide) (by rw [show pairS _ 0 = ⟨#[a, b]⟩ from by with_unfolding_all rfl]; exact hi) (by with_unfolding_all rfl) (by rw [show pairS _ 3 = ⟨#[c, d]⟩ from by with_unfolding_all rfl]; exact hj) (by with_unfolding_all rfl) (by rw [show pairS _ 6 = ⟨#[e, f]⟩ from by with_unfolding_all rfl]; exact hk)) rfl).trans ?_
    have hit : Txt.item ⟨#[a, b, 58, c, d, 58, e, f, 59, g1, g2, g3, g4, g5, g6, g7, g8, g9]⟩ 8 = ⟨#[59]⟩ := by with_unfolding_all rfl
    exact tail_mark (show (8 : Int) < ((18 : Nat) : Int) by decide) (by rw [hit]; decide +kernel)
  · simp only [List.length_cons] at hl2
    omega
theorem page6 (h1 : TwoIs hh h) (h2 : TwoIs mm m) (h3 : TwoIs ss s) (h4 : FigIs fg) : TextOk (hh ++ sC ++ mm ++ sC ++ ss ++ PySem.Str.ofString "." ++ fg ++ PySem.Str.ofString "x") ∧ parseP (hh ++ sC ++ mm ++ sC ++ ss ++ PySem.Str.ofString "." ++ fg ++ PySem.Str.ofString "x") = .error (PySem.Str.ofString "Non-digit values in fraction") := by
  obtain ⟨a, b, rfl, ha, hb, hi⟩ := h1
  obtain ⟨c, d, rfl, hc, hd, hj⟩ := h2
  obtain ⟨e, f, rfl, he, hf, hk⟩ := h3
  obtain ⟨ds, hds, hl1, hl2, rfl⟩ := h4
  rcases ds with _ | ⟨g1, _ | ⟨g2, _ | ⟨g3, _ | ⟨g4, _ | ⟨g5, _ | ⟨g6, _ | ⟨g7, _ | ⟨g8, _ | ⟨g9, _ | ⟨g10, r⟩⟩⟩⟩⟩⟩⟩⟩⟩⟩
  · exact absurd hl1 (by decide)
  · simp only [List.forall_mem_cons, List.not_mem_nil, false_implies, implies_true, and_true] at hds
    have q1 := hds
    refine ⟨textOk_of (l := [a, b, 58, c, d, 58, e, f, 46, g1, 120]) (by with_unfolding_all rfl) (by simp) (by simp only [List.forall_mem_cons, List.not_mem_nil, false_implies, implies_true, and_true]; simp only [D1] at *; omega), ?_⟩
    rw [show (_ ++ sC ++ _ ++ sC ++ _ ++ PySem.Str.ofString "." ++ _ ++ PySem.Str.ofString "x" : PySem.Str) = ⟨#[a, b, 58, c, d, 58, e, f, 46, g1, 120]⟩ from by with_unfolding_all rfl]
    refine (parseP_ok (go3 (by show (8 : Int) ≤ ((11 : Nat) : Int); decide) (by rw [show pairS _ 0 = ⟨#[a, b]⟩ from by with_unfolding_all rfl]; exact hi) (by with_unfolding_all rfl) (by rw [show pairS _ 3 = ⟨#[c, d]⟩ from by with_unfolding_all rfl]; exact hj) (by with_unfolding_all rfl) (by rw [show pairS _ 6 = ⟨#[e, f]⟩ from by with_unfolding_all rfl]; exact hk)) rfl).trans ?_
    have hit : Txt.item ⟨#[a, b, 58, c, d, 58, e, f, 46, g1, 120]⟩ 8 = ⟨#[46]⟩ := by with_unfolding_all rfl
    refine tail_digit (show (8 : Int) < ((11 : Nat) : Int) by decide) (by rw [hit]; decide +kernel) ?_
    rw [show Txt.slice ⟨#[a, b, 58, c, d, 58, e, f, 46, g1, 120]⟩ (some (8 + 1)) none = ⟨#[g1, 120]⟩ from by with_unfolding_all rfl]
    simp only [List.all_cons, List.all_nil, Bool.and_true, Bool.and_false, digQ_x]
  · simp only [List.forall_mem_cons, List.not_mem_nil, false_implies, implies_true, and_true] at hds
    obtain ⟨q1, q2⟩ := hds
    refine ⟨textOk_of (l := [a, b, 58, c, d, 58, e, f, 46, g1, g2, 120]) (by with_unfolding_all rfl) (by simp) (by simp only [List.forall_mem_cons, List.not_mem_nil, false_implies, implies_true, and_true]; simp only [D1] at *; omega), ?_⟩
    rw [show (_ ++ sC ++ _ ++ sC ++ _ ++ PySem.Str.ofString "." ++ _ ++ PySem.Str.ofString "x" : PySem.Str) = ⟨#[a, b, 58, c, d, 58, e, f, 46, g1, g2, 120]⟩ from by with_unfolding_all rfl]
    refine (parseP_ok (go3 (by show (8 : Int) ≤ ((12 : Nat) : Int); decide) (by rw [show pairS _ 0 = ⟨#[a, b]⟩ from by with_unfolding_all rfl]; exact hi) (by with_unfolding_all rfl) (by rw [show pairS _ 3 = ⟨#[c, d]⟩ from by with_unfolding_all rfl]; exact hj) (by with_unfolding_all rfl) (by rw [show pairS _ 6 = ⟨#[e, f]⟩ from by with_unfolding_all rfl]; exact hk)) rfl).trans ?_
    have hit : Txt.item ⟨#[a, b, 58, c, d, 58, e, f, 46, g1, g2, 120]⟩ 8 = ⟨#[46]⟩ := by with_unfolding_all rfl
    refine tail_digit (show (8 : Int) < ((12 : Nat) : Int) by decide) (by rw [hit]; decide +kernel) ?_
    rw [show Txt.slice ⟨#[a, b, 58, c, d, 58, e, f, 46, g1, g2, 120]⟩ (some (8 + 1)) none = ⟨#[g1, g2, 120]⟩ from by with_unfolding_all rfl]
    simp only [List.all_cons, List.all_nil, Bool.and_true, Bool.and_false, digQ_x]
  · simp only [List.forall_mem_cons, List.not_mem_nil, false_implies, implies_true, and_true] at hds
    obtain ⟨q1, q2, q3⟩ := hds
    refine ⟨textOk_of (l := [a, b, 58, c, d, 58, e, f, 46, g1, g2, g3, 120]) (by with_unfolding_all rfl) (by simp) (by simp only [List.forall_mem_cons, List.not_mem_nil, false_implies, implies_true, and_true]; simp only [D1] at *; omega), ?_⟩
    rw [show (_ ++ sC ++ _ ++ sC ++ _ ++ PySem.Str.ofString "." ++ _ ++ PySem.Str.ofString "x" : PySem.Str) = ⟨#[a, b, 58, c, d, 58, e, f, 46, g1, g2, g3, 120]⟩ from by with_unfolding_all rfl]
    refine (parseP_ok (go3 (by show (8 : Int) ≤ ((13 : Nat) : Int); decide) (by rw [show pairS _ 0 = ⟨#[a, b]⟩ from by with_unfolding_all rfl]; exact hi) (by with_unfolding_all rfl) (by rw [show pairS _ 3 = ⟨#[c, d]⟩ from by with_unfolding_all rfl]; exact hj) (by with_unfolding_all rfl) (by rw [show pairS _ 6 = ⟨#[e, f]⟩ from by with_unfolding_all rfl]; exact hk)) rfl).trans ?_
    have hit : Txt.item ⟨#[a, b, 58, c, d, 58, e, f, 46, g1, g2, g3, 120]⟩ 8 = ⟨#[46]⟩ := by with_unfolding_all rfl
    refine tail_digit (show (8 : Int) < ((13 : Nat) : Int) by decide) (by rw [hit]; decide +kernel) ?_
    rw [show Txt.slice ⟨#[a, b, 58, c, d, 58, e, f, 46, g1, g2, g3, 120]⟩ (some (8 + 1)) none = ⟨#[g1, g2, g3, 120]⟩ from by with_unfolding_all rfl]
    simp only [List.all_cons, List.all_nil, Bool.and_true, Bool.and_false, digQ_x]
  · simp only [List.forall_mem_cons, List.not_mem_nil, false_implies, implies_true, and_true] at hds
    obtain ⟨q1, q2, q3, q4⟩ := hds
    refine ⟨textOk_of (l := [a, b, 58, c, d, 58, e, f, 46, g1, g2, g3, g4, 120]) (by with_unfolding_all rfl) (by simp) (by simp only [List.forall_mem_cons, List.not_mem_nil, false_implies, implies_true, and_true]; simp only [D1] at *; omega), ?_⟩
    rw [show (_ ++ sC ++ _ ++ sC ++ _ ++ PySem.Str.ofString "." ++ _ ++ PySem.Str.ofString "x" : PySem.Str) = ⟨#[a, b, 58, c, d, 58, e, f, 46, g1, g2, g3, g4, 120]⟩ from by with_unfolding_all rfl]
    refine (parseP_ok (go3 (by show (8 : Int) ≤ ((14 : Nat) : Int); decide) (by rw [show pairS _ 0 = ⟨#[a, b]⟩ from by with_unfolding_all rfl]; exact hi) (by with_unfolding_all rfl) (by rw [show pairS _ 3 = ⟨#[c, d]⟩ from by with_unfolding_all rfl]; exact hj) (by with_unfolding_all rfl) (by rw [show pairS _ 6 = ⟨#[e, f]⟩ from by with_unfolding_all rfl]; exact hk)) rfl).trans ?_
    have hit : Txt.item ⟨#[a, b, 58, c, d, 58, e, f, 46, g1, g2, g3, g4, 120]⟩ 8 = ⟨#[46]⟩ := by with_unfolding_all rfl
    refine tail_digit (show (8 : Int) < ((14 : Nat) : Int) by decide) (by rw [hit]; decide +kernel) ?_
    rw [show Txt.slice ⟨#[a, b, 58, c, d, 58, e, f, 46, g1, g2, g3, g4, 120]⟩ (some (8 + 1)) none = ⟨#[g1, g2, g3, g4, 120]⟩ from by with_unfolding_all rfl]
    simp only [List.all_cons, List.all_nil, Bool.and_true, Bool.and_false, digQ_x]
  · simp only [List.forall_mem_cons, List.not_mem_nil, false_implies, implies_true, and_true] at hds
    obtain ⟨q1, q2, q3, q4, q5⟩ := hds
    refine ⟨textOk_of (l := [a, b, 58, c, d, 58, e, f, 46, g1, g2, g3, g4, g5, 120]) (by with_unfolding_all rfl) (by simp) (by simp only [List.forall_mem_cons, List.not_mem_nil, false_implies, implies_true, and_true]; simp only [D1] at *; omega), ?_⟩
    rw [show (_ ++ sC ++ _ ++ sC ++ _ ++ PySem.Str.ofString "." ++ _ ++ PySem.Str.ofString "x" : PySem.Str) = ⟨#[a, b, 58, c, d, 58, e, f, 46, g1, g2, g3, g4, g5, 120]⟩ from by with_unfolding_all rfl]
    refine (parseP_ok (go3 (by show (8 : Int) ≤ ((15 : Nat) : Int); decide) (by rw [show pairS _ 0 = ⟨#[a, b]⟩ from by with_unfolding_all rfl]; exact hi) (by with_unfolding_all rfl) (by rw [show pairS _ 3 = ⟨#[c, d]⟩ from by with_unfolding_all rfl]; exact hj) (by with_unfolding_all rfl) (by rw [show pairS _ 6 = ⟨#[e, f]⟩ from by with_unfolding_all rfl]; exact hk)) rfl).trans ?_
    have hit : Txt.item ⟨#[a, b, 58, c, d, 58, e, f, 46, g1, g2, g3, g4, g5, 120]⟩ 8 = ⟨#[46]⟩ := by with_unfolding_all rfl
    refine tail_digit (show (8 : Int) < ((15 : Nat) : Int) by decide) (by rw [hit]; decide +kernel) ?_
    rw [show Txt.slice ⟨#[a, b, 58, c, d, 58, e, f, 46, g1, g2, g3, g4, g5, 120]⟩ (some (8 + 1)) none = ⟨#[g1, g2, g3, g4, g5, 120]⟩ from by with_unfolding_all rfl]
    simp only [List.all_cons, List.all_nil, Bool.and_true, Bool.and_false, digQ_x]
  · simp only [List.forall_mem_cons, List.not_mem_nil, false_implies, implies_true, and_true] at hds
    obtain ⟨q1, q2, q3, q4, q5, q6⟩ := hds
    refine ⟨textOk_of (l := [a, b, 58, c, d, 58, e, f, 46, g1, g2, g3, g4, g5, g6, 120]) (by with_unfolding_all rfl) (by simp) (by simp only [List.forall_mem_cons, List.not_mem_nil, false_implies, implies_true, and_true]; simp only [D1] at *; omega), ?_⟩
    rw [show (_ ++ sC ++ _ ++ sC ++ _ ++ PySem.Str.ofString "." ++ _ ++ PySem.Str.ofString "x" : PySem.Str) = ⟨#[a, b, 58, c, d, 58, e, f, 46, g1, g2, g3, g4, g5, g6, 120]⟩ from by with_unfolding_all rfl]
    refine (parseP_ok (go3 (by show (8 : Int) ≤ ((16 : Nat) : Int); decide) (by rw [show pairS _ 0 = ⟨#[a, b]⟩ from by with_unfolding_all rfl]; exact hi) (by with_unfolding_all rfl) (by rw [show pairS _ 3 = ⟨#[c, d]⟩ from by with_unfolding_all rfl]; exact hj) (by with_unfolding_all rfl) (by rw [show pairS _ 6 = ⟨#[e, f]⟩ from by with_unfolding_all rfl]; exact hk)) rfl).trans ?_
    have hit : Txt.item ⟨#[a, b, 58, c, d, 58, e, f, 46, g1, g2, g3, g4, g5, g6, 120]⟩ 8 = ⟨#[46]⟩ := by with_unfolding_all rfl
    refine tail_digit (show (8 : Int) < ((16 : Nat) : Int) by decide) (by rw [hit]; decide +kernel) ?_
    rw [show Txt.slice ⟨#[a, b, 58, c, d, 58, e, f, 46, g1, g2, g3, g4, g5, g6, 120]⟩ (some (8 + 1)) none = ⟨#[g1, g2, g3, g4, g5, g6, 120]⟩ from by with_unfolding_all rfl]
    simp only [List.all_cons, List.all_nil, Bool.and_true, Bool.and_false, digQ_x]
  · simp only [List.forall_mem_cons, List.not_mem_nil, false_implies, implies_true, and_true] at hds
    obtain ⟨q1, q2, q3, q4, q5, q6, q7⟩ := hds
    refine ⟨textOk_of (l := [a, b, 58, c, d, 58, e, f, 46, g1, g2, g3, g4, g5, g6, g7, 120]) (by with_unfolding_all rfl) (by simp) (by simp only [List.forall_mem_cons, List.not_mem_nil, false_implies, implies_true, and_true]; simp only [D1] at *; omega), ?_⟩
    rw [show (_ ++ sC ++ _ ++ sC ++ _ ++ PySem.Str.ofString "." ++ _ ++ PySem.Str.ofString "x" : PySem.Str) = ⟨#[a, b, 58, c, d, 58, e, f, 46, g1, g2, g3, g4, g5, g6, g7, 120]⟩ from by with_unfolding_all rfl]
    refine (parseP_ok (go3 (by show (8 : Int) ≤ ((17 : Nat) : Int); decide) (by rw [show pairS _ 0 = ⟨#[a, b]⟩ from by with_unfolding_all rfl]; exact hi) (by with_unfolding_all rfl) (by rw [show pairS _ 3 = ⟨#[c, d]⟩ from by with_unfolding_all rfl]; exact hj) (by with_unfolding_all rfl) (by rw [show pairS _ 6 = ⟨#[e, f]⟩ from by with_unfolding_all rfl]; exact hk)) rfl).trans ?_
    have hit : Txt.item ⟨#[a, b, 58, c, d, 58, e, f, 46, g1, g2, g3, g4, g5, g6, g7, 120]⟩ 8 = ⟨#[46]⟩ := by with_unfolding_all rfl
    refine tail_digit (show (8 : Int) < ((17 : Nat) : Int) by decide) (by rw [hit]; decide +kernel) ?_
    rw [show Txt.slice ⟨#[a, b, 58, c, d, 58, e, f, 46, g1, g2, g3, g4, g5, g6, g7, 120]⟩ (some (8 + 1)) none = ⟨#[g1, g2, g3, g4, g5, g6, g7, 120]⟩ from by with_unfolding_all rfl]
    simp only [List.all_cons, List.all_nil, Bool.and_true, Bool.and_false, digQ_x]
  · simp only [List.forall_mem_cons, List.not_mem_nil, false_implies, implies_true, and_true] at hds
    obtain ⟨q1, q2, q3, q4, q5, q6, q7, q8⟩ := hds
    refine ⟨textOk_of (l := [a, b, 58, c, d, 58, e, f, 46, g1, g2, g3, g4, g5, g6, g7, g8, 120]) (by with_unfolding_all rfl) (by simp) (by simp only [List.forall_mem_cons, List.not_mem_nil, false_implies, implies_true, and_true]; simp only [D1] at *; omega), ?_⟩
    rw [show (_ ++ sC ++ _ ++ sC ++ _ ++ PySem.Str.ofString "." ++ _ ++ PySem.Str.ofString "x" : PySem.Str) = ⟨#[a, b, 58, c, d, 58, e, f, 46, g1, g2, g3, g4, g5, g6, g7, g8, 120]⟩ from by with_unfolding_all rfl]
    refine (parseP_ok (go3 (by show (8 : Int) ≤ ((18 : Nat) : Int); decide) (by rw [show pairS _ 0 = ⟨#[a, b]⟩ from by with_unfolding_all rfl]; exact hi) (by with_unfolding_all rfl) (by rw [show pairS _ 3 = ⟨#[c, d]⟩ from by with_unfolding_all rfl]; exact hj) (by with_unfolding_all rfl) (by rw [show pairS _ 6 = ⟨#[e, f]⟩ from by with_unfolding_all rfl]; exact hk)) rfl).trans ?_
    have hit : Txt.item ⟨#[a, b, 58, c, d, 58, e, f, 46, g1, g2, g3, g4, g5, g6, g7, g8, 120]⟩ 8 = ⟨#[46]⟩ := by with_unfolding_all rfl
    refine tail_digit (show (8 : Int) < ((18 : Nat) : Int) by decide) (by rw [hit]; decide +kernel) ?_
    rw [show Txt.slice ⟨#[a, b, 58, c, d, 58, e, f, 46, g1, g2, g3, g4, g5, g6, g7, g8, 120]⟩ (some (8 + 1)) none = ⟨#[g1, g2, g3, g4, g5, g6, g7, g8, 120]⟩ from by with_unfolding_all rfl]
    simp only [List.all_cons, List.all_nil, Bool.and_true, Bool.and_false, digQ_x]
  · simp only [List.forall_mem_cons, List.not_mem_nil, false_implies, implies_true, and_true] at hds
    obtain ⟨q1, q2, q3, q4, q5, q6, q7, q8, q9⟩ := hds
    refine ⟨textOk_of (l := [a, b, 58, c, d, 58, e, f, 46, g1, g2, g3, g4, g5, g6, g7, g8, g9, 120]) (by with_unfolding_all rfl) (by simp) (by simp only [List.forall_mem_cons, List.not_mem_nil, false_implies, implies_true, and_true]; simp only [D1] at *; omega), ?_⟩
    rw [show (_ ++ sC ++ _ ++ sC ++ _ ++ PySem.Str.ofString "." ++ _ ++ PySem.Str.ofString "x" : PySem.Str) = ⟨#[a, b, 58, c, d, 58, e, f, 46, g1, g2, g3, g4, g5, g6, g7, g8, g9, 120]⟩ from by with_unfolding_all rfl]
    refine (parseP_ok (go3 (by show (8 : Int) ≤ ((19 : Nat) : Int); decide) (by rw [show pairS _ 0 = ⟨#[a, b]⟩ from by with_unfolding_all rfl]; exact hi) (by with_unfolding_all rfl) (by rw [show pairS _ 3 = ⟨#[c, d]⟩ from by with_unfolding_all rfl]; exact hj) (by with_unfolding_all rfl) (by rw [show pairS _ 6 = ⟨#[e, f]⟩ from by with_unfolding_all rfl]; exact hk)) rfl).trans ?_
    have hit : Txt.item ⟨#[a, b, 58, c, d, 58, e, f, 46, g1, g2, g3, g4, g5, g6, g7, g8, g9, 120]⟩ 8 = ⟨#[46]⟩ := by with_unfolding_all rfl
    refine tail_digit (show (8 : Int) < ((19 : Nat) : Int) by decide) (by rw [hit]; decide +kernel) ?_
    rw [show Txt.slice ⟨#[a, b, 58, c, d, 58, e, f, 46, g1, g2, g3, g4, g5, g6, g7, g8, g9, 120]⟩ (some (8 + 1)) none = ⟨#[g1, g2, g3, g4, g5, g6, g7, g8, g9, 120]⟩ from by with_unfolding_all rfl]
    simp only [List.all_cons, List.all_nil, Bool.and_true, Bool.and_false, digQ_x]
  · simp only [List.length_cons] at hl2
    omega
end
end Mine
end
section
open PySem PySem.W PyProof.Rows PySem.Calls
set_option maxRecDepth 100000
set_option pp.maxSteps 400
set_option maxHeartbeats 8000000
set_option rowWalk.seconds 0
namespace Mine
local macro_rules | `(tactic| k_room) => `(tactic| ((try simp only [depth_under_make, depth_under_kw, depth_in1, depth_deeper, depth_caller]); first | decide | omega | (simp only [recursionLimit] at *; omega)))
local macro_rules | `(tactic| walk_at "my stop") => `(tactic| ((fail_if_success (with_reducible show wpAny _ _ (pyIter _) (fun it s₂ => LoopAtV _ _ _ _ _ _ _ _ _ it s₂) _ _)); (fail_if_success (with_reducible show wpAny _ _ (call (Value.ref _) _ _) _ _ _)); (fail_if_success (with_reducible show wpAny _ _ (call (Value.type "int") _ _) _ _ _)); (fail_if_success (with_reducible show wpAny _ _ (call (Value.type "str") _ _) _ _ _)); (fail_if_success (with_reducible show wpAny _ _ (subscriptTail (Expr.Tuple _ _ _) _ (Value.ref _) _) _ _ _)); (fail_if_success (with_reducible show wpAny _ _ (eval (Expr.Tuple [_, _] _ _) _) _ _ _)); (fail_if_success (with_reducible show wpAny _ _ (binaryOp Operator.Add (Value.str _ _) (Value.str _ _)) _ _ _)); skip))
local macro_rules | `(tactic| k_steps) => `(tactic| repeat' (first | (k_unfold; (try dsimp only)) | (k_end; wrow_close) | (walk_at "my add") | (walk_at "my stop"; walk1) | (walk_at "my stop"; dsimp only; walk1) | (leave1; walk_say "STEP leave1"; try dsimp only) | fail "no step"))
local macro_rules | `(tactic| walk_at "mem tail") => `(tactic| (intro p hp; repeat (first | exact hp | refine List.Mem.tail _ ?_)))
local macro_rules | `(tactic| walk_at "mem all") => `(tactic| repeat' (first | exact List.forall_mem_nil _ | (refine List.forall_mem_cons.mpr ⟨?_, ?_⟩) | k_mem | walk_at "mem tail"))
local macro_rules | `(tactic| walk_at "off all") => `(tactic| repeat' (first | exact List.forall_mem_nil _ | (refine List.forall_mem_cons.mpr ⟨?_, ?_⟩) | k_ne))
local macro_rules | `(tactic| k_all) => `(tactic| (repeat (refine List.forall_mem_cons.mpr ⟨by k_ne, ?_⟩)); first | assumption | exact List.forall_mem_nil _)
local macro_rules | `(tactic| walk_at "assign Tuple") => `(tactic| (k_here; (with_reducible show wpAny _ _ (assign (Expr.Tuple _ _ _) _ (Value.ref _)) _ _ _); (refine' unpackN_ ?k1 ?k2 ?k3 ?k4 ?k5 ?k6 ?_; (case k1 => k_asm); (case k2 => k_asm); (case k3 => kun_tup); (case k4 => first | rfl | assumption); (case k5 => exact rfl); (case k6 => exact rfl); k_whole); intro h' F' N'; (try k_sweep)))
local macro_rules | `(tactic| walk_at "assign Tuple") => `(tactic| (k_here; (with_reducible show wpAny _ _ (assign (Expr.Tuple _ _ _) _ (Value.ref _)) _ _ _); (refine' kun_list ?k1 ?k2 ?k3 ?k4 ?k5 ?k6 ?_; (case k1 => k_asm); (case k2 => k_asm); (case k3 => kun_lst); (case k4 => first | rfl | assumption); (case k5 => exact rfl); (case k6 => exact rfl); k_whole); intro h' F' N'; (try k_sweep)))
local macro_rules | `(tactic| walk_at "units") => `(tactic| ((try simp only [units_deeper, units_in1, units_caller, cLine_is]); first | decide | (simp only [cLine_is] at *; omega)))
local macro_rules | `(tactic| walk_at "unpackItems ref") => `(tactic| ((with_reducible show wpAny _ _ (unpackItems (Value.ref _) _ none) _ _ _); k_here; (refine' unpackItemsN_ ?k1 ?k2 ?k3 ?k4 ?k5 ?_; (case k1 => k_asm); (case k2 => k_asm); (case k3 => kun_tup); (case k4 => first | rfl | assumption); (case k5 => exact rfl); k_whole); intro h' F' N'; (try k_sweep)))
theorem twoLen {x : PySem.Str} {n : Int} (h : TwoIs x n) : x.length = 2 := by
  obtain ⟨a, b, rfl, _⟩ := h
  rfl
theorem figLen {x : PySem.Str} (h : FigIs x) : x.length ≤ 9 := by
  obtain ⟨ds, _, _, h2, rfl⟩ := h
  show ds.toArray.size ≤ 9
  simpa using h2
theorem lits : (PySem.Str.ofString ":").length = 1 ∧ (PySem.Str.ofString ".").length = 1 ∧ (PySem.Str.ofString ";").length = 1 ∧ (PySem.Str.ofString "x").length = 1 ∧ (PySem.Str.ofString ":x").length = 2 ∧ (PySem.Str.ofString "000000").length = 6 ∧
    (PySem.Str.ofString "invalid literal for int() with base 10: 'x").length = 42 ∧ (PySem.Str.ofString "'").length = 1 ∧ 1000 ≤ sizeLine := by decide +kernel
structure LenF (xh xm xs fg : PySem.Str) : Prop where
  h1 : xh.length = 2
  h2 : xm.length = 2
  h3 : xs.length = 2
  h4 : fg.length ≤ 9
  h5 : (Txt.slice xs none (some 1)).length ≤ xs.length
  h6 : (Txt.slice xs (some 1) none).length ≤ xs.length
local macro_rules | `(tactic| walk_at "my add") => `(tactic| ((with_reducible show wpAny _ _ (binaryOp Operator.Add (Value.str _ _) (Value.str _ _)) _ _ _); (refine SBL.add (hsz := ?hsz) ?_); (case hsz => (rename LenF _ _ _ _ => lenF; obtain ⟨r1, r2, r3, r4, r5, r6⟩ := lenF; obtain ⟨q1, q2, q3, q4, q5, q6, q7, q8, q9⟩ := lits; (try simp only [strLen_append]); omega)); intro _ _ _; (try dsimp only)))
local macro_rules | `(tactic| size_fits) => `(tactic| (rename LenF _ _ _ _ => lenF; obtain ⟨r1, r2, r3, r4, r5, r6⟩ := lenF; obtain ⟨q1, q2, q3, q4, q5, q6, q7, q8, q9⟩ := lits; (try simp only [strLen_append, List.length_cons, List.length_nil]); omega))
structure Hid (p : Prop) : Prop where
  get : p
/-- what a page says is due -/
def DueIs (x : PySem.Str) (od : Obj) : Prop :=
  (∃ (a b d f : Int) (t1 t2 t3 t4 : Tok) (c : Nat), parseP x = .ok [a, b, d, f] ∧ od = W.listOf #[.int a t1, .int b t2, .int d t3, .int f t4] c) ∨
  (∃ (msg : PySem.Str) (t : Tok) (c : Nat), parseP x = .error msg ∧ od = { cls := .type "tuple", data := .seq #[.str msg t] c })
/-- after a statement: a frame of which some facts are known, a ledger -/
def AtX (h₀ : Heap) (L : Addr) (s : Shared) (nw : List (Addr × Obj)) (facts : (Str → Option Value) → Prop) (f : Flow) (s' : Shared) : Prop :=
  f = .next ∧ ∃ h' tk m', s' = { s with heap := h', toks := tk } ∧ Fr h₀ L h' m' ∧ News h₀ L h' nw ∧ facts m'
theorem cutX {M : Model} {A : Around} {t : Sem Flow} {Q : Flow → Shared → Prop} {E : Value → Shared → Prop} {s : Shared} {h₀ : Heap} {L : Addr} (nw : List (Addr × Obj)) (facts : (Str → Option Value) → Prop)
    (h : ∀ E', wpAny M A t (AtX h₀ L s nw facts) E' s) (k : ∀ h' tk m', Fr h₀ L h' m' → News h₀ L h' nw → facts m' → Q .next { s with heap := h', toks := tk }) : wpAny M A t Q E s :=
  wpAny_mono (h _) (fun f s' q => by obtain ⟨rfl, h', tk, m', rfl, F, N, x⟩ := q; exact k h' tk m' F N x) fun _ _ e => e
/-- an element of a page's table -/
def ElP (h₀ : Heap) (L : Addr) (m : Str → Option Value) (s : Shared) (nw : List (Addr × Obj)) (x : PySem.Str) (lst : Bool) (v : Value) (s' : Shared) : Prop :=
  ∃ h' tk l op tx ld od c, v = .ref l ∧ s' = { s with heap := h', toks := tk } ∧ op.cls = .type "tuple" ∧ op.data = .seq #[.str x tx, .ref ld] c ∧ TextOk x ∧ DueIs x od ∧ (lst = true → od.cls = .type "list") ∧ Fr h₀ L h' m ∧ News h₀ L h' ((l, op) :: (ld, od) :: nw) ∧ (∀ p ∈ nw, @LT.lt Nat _ p.1 ld) ∧ @LT.lt Nat _ ld l
theorem cutE {M : Model} {A : Around} {t : Sem Value} {Q : Value → Shared → Prop} {E : Value → Shared → Prop} {s : Shared} {h₀ : Heap} {L : Addr} {m : Str → Option Value} (_ : Fr h₀ L s.heap m) (nw : List (Addr × Obj)) (x : PySem.Str) (lst : Bool)
    (h : ∀ E', wpAny M A t (ElP h₀ L m s nw x lst) E' s) (k : ∀ h' tk l op tx ld od c, op.cls = .type "tuple" → op.data = .seq #[.str x tx, .ref ld] c → TextOk x → DueIs x od → (lst = true → od.cls = .type "list") → Fr h₀ L h' m → News h₀ L h' ((l, op) :: (ld, od) :: nw) → (∀ p ∈ nw, @LT.lt Nat _ p.1 ld) → @LT.lt Nat _ ld l → Q (.ref l) { s with heap := h', toks := tk }) : wpAny M A t Q E s :=
  wpAny_mono (h _) (fun v s' q => by obtain ⟨h', tk, l, op, tx, ld, od, c, rfl, rfl, a1, a2, a3, a4, a5, a6, a7, a8, a9⟩ := q; exact k h' tk l op tx ld od c a1 a2 a3 a4 a5 a6 a7 a8 a9) fun _ _ e => e
section
variable {w : World} {A A₀ : Around} {E : Value → Shared → Prop} {s : Shared} {L : Addr} {h₀ base : Heap} {m mg mb : Str → Option Value} {news : List (Addr × Obj)} {p : Program} {loose : List Str} {mean : ExcName → Option Value} {Q : Value → Shared → Prop} {env : Env} {outer : List Env}
theorem page (B : Below A₀ base outer h₀) (F : Fr h₀ L s.heap m) (X : (hd.heap_39 w.params).In h₀) (N : News h₀ L s.heap news) (T : Top p loose mean mg mb h₀) (hA : A.frames = some (env :: outer)) (hf : env.frame = some L) (hke : env.scope.kind = .function)
  (hroom : A.depth + 30 < recursionLimit) (hh : A.handled = none) (hu : A.units + 30 < cLine) {n : Int} {t : Tok} (h0 : 0 ≤ n)
  (hok : ∀ h' tk l op x tx ld od c, op.cls = .type "tuple" → op.data = .seq #[.str x tx, .ref ld] c → TextOk x → DueIs x od → (n = 0 → od.cls = .type "list") → Fr h₀ L h' m → News h₀ L h' ((l, op) :: (ld, od) :: news) → (∀ p ∈ news, @LT.lt Nat _ p.1 ld) → @LT.lt Nat _ ld l → Q (.ref l) { s with heap := h', toks := tk }) :
  wpAny (model PySem.Challenge.rw_km0086_08.row.prog w) A (call (.ref 50) [.int n t]) Q E s := by
  w_top off
  refine wpAny_call ?_
  refine' code_def B F X N T hA hf hke ?k6 ?k7 ?k8 ?k9 ?kB ?_ ?c2 ?c3 ?c4 ?c5
  case k6 => k_is
  case k7 => k_is
  case k8 => k_room
  case k9 => exact BindsTo.of_eq rfl
  case kB => exact locs rfl
  case c2 => exact rfl
  case c3 => exact rfl
  case c4 => exact rfl
  case c5 => decide
  intro g' L' h' FG' F' N' B' X' T'
  (try dsimp only)
  obtain ⟨w0, pl, ho, mi, se, fr, hdg, hw0, hw1, hp0, hp1, hh0, hh1, hm0, hm1, hs0, hs1, hn0⟩ : ∃ w0 pl ho mi se fr : Int, dgs n bl8 = [w0, pl, ho, mi, se, fr] ∧ 0 ≤ w0 ∧ w0 < 8 ∧ 0 ≤ pl ∧ pl < 9 ∧ 0 ≤ ho ∧ ho < 100 ∧ 0 ≤ mi ∧ mi < 100 ∧ 0 ≤ se ∧ se < 100 ∧ (n = 0 → w0 = 0) := by
    refine ⟨_, _, _, _, _, _, rfl, ?_⟩
    omega
  refine wpAny_execs_cons (cutX (h₀ := g') (L := L') news (fun m' => ∃ t0 t1 t2 t3 t4 t5, m' ("way" : Str) = some (.int w0 t0) ∧ m' ("places" : Str) = some (.int pl t1) ∧ m' ("hour" : Str) = some (.int ho t2) ∧ m' ("minute" : Str) = some (.int mi t3) ∧ m' ("second" : Str) = some (.int se t4) ∧ m' ("fraction" : Str) = some (.int fr t5)) (fun E' => ?_) ?_)
  · k_steps
    (with_reducible rename Fr _ _ _ _ => F1)
    (with_reducible rename News _ _ _ _ => N1)
    refine digits B' F1 X' N1 T' (Around.frames_deeper B'.stack) rfl rfl ?hr1 hh ?hu1 h0 (.head _) fun h2 tk2 l2 its c2 hI F2 N2 l2lt => ?_
    case hr1 =>
      have hr : A.depth + 1 + 20 < recursionLimit := by omega
      exact hr
    case hu1 => walk_at "units"
    rw [hdg] at hI
    obtain ⟨t0, t1, t2, t3, t4, t5, e6⟩ := ints6 hI
    obtain ⟨ll⟩ := its
    obtain rfl : ll = _ := e6
    k_steps
    (with_reducible rename Fr g' _ _ _ => FE)
    (with_reducible rename News g' _ _ _ => NE)
    exact ⟨rfl, _, _, _, rfl, FE, news_sub NE (fun p hp => .tail _ (.tail _ hp)), t0, t1, t2, t3, t4, t5, rfl, rfl, rfl, rfl, rfl, rfl⟩
  rintro h2 tk2 m2 F2 N2 ⟨t0, t1, t2, t3, t4, t5, k0, k1, k2, k3, k4, k5⟩
  have T1 : TwoIs (twoS ho) ho := twoD hh0 hh1
  have T2 : TwoIs (twoS mi) mi := twoD hm0 hm1
  have T3 : TwoIs (twoS se) se := twoD hs0 hs1
  rw [map_at k0] at F2
  rw [map_at k1] at F2
  rw [map_at k2] at F2
  rw [map_at k3] at F2
  rw [map_at k4] at F2
  rw [map_at k5] at F2
  dsimp only at F2
  refine wpAny_execs_cons (cutX (h₀ := g') (L := L') news (fun m' => ∃ u1 u2 u3, m' ("hh" : Str) = some (.str (twoS ho) u1) ∧ m' ("mm" : Str) = some (.str (twoS mi) u2) ∧ m' ("ss" : Str) = some (.str (twoS se) u3) ∧ m' ("way" : Str) = some (.int w0 t0) ∧ m' ("places" : Str) = some (.int pl t1) ∧ m' ("hour" : Str) = some (.int ho t2) ∧ m' ("minute" : Str) = some (.int mi t3) ∧ m' ("second" : Str) = some (.int se t4) ∧ m' ("fraction" : Str) = some (.int fr t5)) (fun E' => ?_) ?_)
  · k_steps
    (with_reducible rename Fr _ _ _ _ => F20)
    (with_reducible rename News _ _ _ _ => N20)
    refine two B' F20 X' N20 T' (Around.frames_deeper B'.stack) rfl rfl ?hr1 hh ?hu1 hh0 hh1 fun h20 tk20 u20 FF20 NN20 => ?_
    case hr1 =>
      have hr : A.depth + 1 + 20 < recursionLimit := by omega
      exact hr
    case hu1 => walk_at "units"
    clear F20 N20
    dsimp only
    k_steps
    (with_reducible rename Fr _ _ _ _ => F21)
    (with_reducible rename News _ _ _ _ => N21)
    refine two B' F21 X' N21 T' (Around.frames_deeper B'.stack) rfl rfl ?hr1 hh ?hu1 hm0 hm1 fun h21 tk21 u21 FF21 NN21 => ?_
    case hr1 =>
      have hr : A.depth + 1 + 20 < recursionLimit := by omega
      exact hr
    case hu1 => walk_at "units"
    clear F21 N21
    dsimp only
    k_steps
    (with_reducible rename Fr _ _ _ _ => F22)
    (with_reducible rename News _ _ _ _ => N22)
    refine two B' F22 X' N22 T' (Around.frames_deeper B'.stack) rfl rfl ?hr1 hh ?hu1 hs0 hs1 fun h22 tk22 u22 FF22 NN22 => ?_
    case hr1 =>
      have hr : A.depth + 1 + 20 < recursionLimit := by omega
      exact hr
    case hu1 => walk_at "units"
    clear F22 N22
    dsimp only
    k_steps
    (with_reducible rename Fr g' _ _ _ => FE)
    (with_reducible rename News g' _ _ _ => NE)
    exact ⟨rfl, _, _, _, rfl, FE, news_sub NE (fun p hp => .tail _ hp), u20, u21, u22, rfl, rfl, rfl, rfl, rfl, rfl, rfl, rfl, rfl⟩
  clear F2 N2 k0 k1 k2 k3 k4 k5
  rintro h3 tk3 m3 F3 N3 ⟨u1, u2, u3, k6, k7, k8, k0, k1, k2, k3, k4, k5⟩
  generalize twoS ho = xh at k6 T1
  generalize twoS mi = xm at k7 T2
  generalize twoS se = xs at k8 T3
  obtain ⟨fg, u4, efg⟩ : ∃ fg u4, fg = figsS fr pl := ⟨_, 0, rfl⟩
  clear u4
  have T4 : FigIs fg := by
    obtain ⟨ds, a, b, c⟩ := figsD (f := fr) hp0 hp1
    exact ⟨ds, a, by omega, by omega, efg.trans c⟩
  refine wpAny_execs_cons (cutX (h₀ := g') (L := L') news (fun m' => ∃ u4, m' ("figures" : Str) = some (.str fg u4) ∧ m' ("hh" : Str) = some (.str xh u1) ∧ m' ("mm" : Str) = some (.str xm u2) ∧ m' ("ss" : Str) = some (.str xs u3) ∧ m' ("way" : Str) = some (.int w0 t0) ∧ m' ("hour" : Str) = some (.int ho t2) ∧ m' ("minute" : Str) = some (.int mi t3) ∧ m' ("second" : Str) = some (.int se t4)) (fun E' => ?_) ?_)
  · rw [map_at k0] at F3
    rw [map_at k1] at F3
    rw [map_at k2] at F3
    rw [map_at k3] at F3
    rw [map_at k4] at F3
    rw [map_at k5] at F3
    rw [map_at k6] at F3
    rw [map_at k7] at F3
    rw [map_at k8] at F3
    dsimp only at F3
    k_steps
    rw [show ((10 : Int) ^ Int.toNat 9) = 1000000000 from rfl, Int.fmod_eq_emod_of_nonneg _ (by decide)]
    refine P.str_of_int (shown (N := 2 ^ 1920) (by omega) (by omega) (Int.le_refl _)) ?_
    k_steps
    (with_reducible rename Fr g' _ _ _ => FE)
    (with_reducible rename News g' _ _ _ => NE)
    subst efg
    exact ⟨rfl, _, _, _, rfl, FE, NE, _, rfl, rfl, rfl, rfl, rfl, rfl, rfl, rfl⟩
  clear F3 N3 k0 k1 k2 k3 k4 k5 k6 k7 k8 efg
  rintro h4 tk4 m4 F4 N4 ⟨u4, k0, k1, k2, k3, k4, k5, k6, k7⟩
  have hLF : LenF xh xm xs fg := ⟨twoLen T1, twoLen T2, twoLen T3, figLen T4, slice_len xs none (some 1), slice_len xs (some 1) none⟩
  refine wpAny_execs_cons (cutX (h₀ := g') (L := L') news (fun m' => ∃ u5, m' ("start" : Str) = some (.str (xh ++ PySem.Str.ofString ":" ++ xm) u5) ∧ m' ("figures" : Str) = some (.str fg u4) ∧ m' ("hh" : Str) = some (.str xh u1) ∧ m' ("mm" : Str) = some (.str xm u2) ∧ m' ("ss" : Str) = some (.str xs u3) ∧ m' ("way" : Str) = some (.int w0 t0) ∧ m' ("hour" : Str) = some (.int ho t2) ∧ m' ("minute" : Str) = some (.int mi t3) ∧ m' ("second" : Str) = some (.int se t4)) (fun E' => ?_) ?_)
  · rw [map_at k0] at F4
    rw [map_at k1] at F4
    rw [map_at k2] at F4
    rw [map_at k3] at F4
    rw [map_at k4] at F4
    rw [map_at k5] at F4
    rw [map_at k6] at F4
    rw [map_at k7] at F4
    dsimp only at F4
    k_steps
    (with_reducible rename Fr g' _ _ _ => FE)
    (with_reducible rename News g' _ _ _ => NE)
    exact ⟨rfl, _, _, _, rfl, FE, NE, _, rfl, rfl, rfl, rfl, rfl, rfl, rfl, rfl, rfl⟩
  clear F4 N4 k0 k1 k2 k3 k4 k5 k6 k7
  rintro h5 tk5 m5 F5 N5 ⟨u5, k0, k1, k2, k3, k4, k5, k6, k7, k8⟩
  rw [map_at k0] at F5
  rw [map_at k1] at F5
  rw [map_at k2] at F5
  rw [map_at k3] at F5
  rw [map_at k4] at F5
  rw [map_at k5] at F5
  rw [map_at k6] at F5
  rw [map_at k7] at F5
  rw [map_at k8] at F5
  dsimp only at F5
  clear k0 k1 k2 k3 k4 k5 k6 k7 k8
  k_steps
  obtain ⟨v, hv, P0⟩ := page0 T1 T2 T3 T4
  replace P0 := Hid.mk P0
  have P1 := Hid.mk (page1 T1 T2 T3)
  have P2 := Hid.mk (page2 T1 T2 T3)
  have P3 := Hid.mk (page3 T1 T2 T3)
  have P4 := Hid.mk (page4 T1 T2 T3)
  have P5 := Hid.mk (page5 T1 T2 T3 T4)
  have P6 := Hid.mk (page6 T1 T2 T3 T4)
  have P7 := Hid.mk (page7 T1 T2 T3)
  have hl7 : Hid ((Txt.slice (fg ++ sZ) none (some 6)).length ≤ 640) := ⟨Nat.le_trans (slice_len _ _ _) (by rw [strLen_append, show (sZ : PySem.Str).length = 6 from rfl]; have := hLF.h4; omega)⟩
  clear T1 T2 T3 T4
  refine cutE F5 news (xh ++ PySem.Str.ofString ":" ++ xm ++ PySem.Str.ofString ":" ++ xs ++ PySem.Str.ofString "." ++ fg) true (fun E' => ?_) ?_
  · walk1
    k_steps
    refine KIN.call_text hv hl7.get ?_
    k_steps
    (with_reducible rename Fr g' _ _ _ => FE)
    (with_reducible rename News g' _ _ _ => NE)
    rename (_ < _ ∧ AllLt _ news) => le
    exact ⟨_, _, _, _, _, _, _, _, rfl, rfl, rfl, rfl, P0.get.1, .inl ⟨_, _, _, _, _, _, _, _, _, P0.get.2, rfl⟩, fun _ => rfl, FE, NE, by assumption, le.1⟩
  clear F5 N5
  intro h0x k0x l0 op0 tx0 ld0 od0 c0 a0 b0 d0 e0 f0 E1 M1 p0 q0
  obtain ⟨nw1, e1z⟩ : ∃ nw1, nw1 = (l0, op0) :: (ld0, od0) :: news := ⟨_, rfl⟩
  have s1 : ∀ p ∈ news, p ∈ nw1 := fun p hp => by rw [e1z]; exact .tail _ (.tail _ hp)
  have m1 : (l0, op0) ∈ nw1 := by rw [e1z]; exact .head _
  have n1 : (ld0, od0) ∈ nw1 := by rw [e1z]; exact .tail _ (.head _)
  rw [← e1z] at M1
  clear e1z
  k_steps
  refine cutE E1 nw1 (xh ++ xm ++ xs) true (fun E' => ?_) ?_
  · walk1
    k_steps
    (with_reducible rename Fr g' _ _ _ => FE)
    (with_reducible rename News g' _ _ _ => NE)
    rename (_ < _ ∧ AllLt _ nw1) => le
    exact ⟨_, _, _, _, _, _, _, _, rfl, rfl, rfl, rfl, P1.get.1, .inl ⟨_, _, _, _, _, _, _, _, _, P1.get.2, rfl⟩, fun _ => rfl, FE, NE, by assumption, le.1⟩
  clear E1 M1
  intro h1x k1x l1 op1 tx1 ld1 od1 c1 a1 b1 d1 e1 f1 E2 M2 p1 q1
  obtain ⟨nw2, e2z⟩ : ∃ nw2, nw2 = (l1, op1) :: (ld1, od1) :: nw1 := ⟨_, rfl⟩
  have s2 : ∀ p ∈ nw1, p ∈ nw2 := fun p hp => by rw [e2z]; exact .tail _ (.tail _ hp)
  have m2 : (l1, op1) ∈ nw2 := by rw [e2z]; exact .head _
  have n2 : (ld1, od1) ∈ nw2 := by rw [e2z]; exact .tail _ (.head _)
  rw [← e2z] at M2
  clear e2z
  k_steps
  refine cutE E2 nw2 (xh ++ PySem.Str.ofString ":" ++ xm) true (fun E' => ?_) ?_
  · walk1
    k_steps
    (with_reducible rename Fr g' _ _ _ => FE)
    (with_reducible rename News g' _ _ _ => NE)
    rename (_ < _ ∧ AllLt _ nw2) => le
    exact ⟨_, _, _, _, _, _, _, _, rfl, rfl, rfl, rfl, P2.get.1, .inl ⟨_, _, _, _, _, _, _, _, _, P2.get.2, rfl⟩, fun _ => rfl, FE, NE, by assumption, le.1⟩
  clear E2 M2
  intro h2x k2x l2 op2 tx2 ld2 od2 c2 a2 b2 d2 e2 f2 E3 M3 p2 q2
  obtain ⟨nw3, e3z⟩ : ∃ nw3, nw3 = (l2, op2) :: (ld2, od2) :: nw2 := ⟨_, rfl⟩
  have s3 : ∀ p ∈ nw2, p ∈ nw3 := fun p hp => by rw [e3z]; exact .tail _ (.tail _ hp)
  have m3 : (l2, op2) ∈ nw3 := by rw [e3z]; exact .head _
  have n3 : (ld2, od2) ∈ nw3 := by rw [e3z]; exact .tail _ (.head _)
  rw [← e3z] at M3
  clear e3z
  k_steps
  refine cutE E3 nw3 (xh ++ PySem.Str.ofString ":" ++ xm ++ PySem.Str.ofString ":" ++ Txt.slice xs none (some 1)) false (fun E' => ?_) ?_
  · walk1
    k_steps
    (with_reducible rename Fr g' _ _ _ => FE)
    (with_reducible rename News g' _ _ _ => NE)
    rename (_ < _ ∧ AllLt _ nw3) => le
    exact ⟨_, _, _, _, _, _, _, _, rfl, rfl, rfl, rfl, P3.get.1, .inr ⟨_, _, _, P3.get.2, rfl⟩, nofun, FE, NE, by assumption, le.1⟩
  clear E3 M3
  intro h3x k3x l3 op3 tx3 ld3 od3 c3 a3 b3 d3 e3 f3 E4 M4 p3 q3
  obtain ⟨nw4, e4z⟩ : ∃ nw4, nw4 = (l3, op3) :: (ld3, od3) :: nw3 := ⟨_, rfl⟩
  have s4 : ∀ p ∈ nw3, p ∈ nw4 := fun p hp => by rw [e4z]; exact .tail _ (.tail _ hp)
  have m4 : (l3, op3) ∈ nw4 := by rw [e4z]; exact .head _
  have n4 : (ld3, od3) ∈ nw4 := by rw [e4z]; exact .tail _ (.head _)
  rw [← e4z] at M4
  clear e4z
  k_steps
  refine cutE E4 nw4 (xh ++ PySem.Str.ofString ":" ++ xm ++ PySem.Str.ofString ";" ++ xs) false (fun E' => ?_) ?_
  · walk1
    k_steps
    (with_reducible rename Fr g' _ _ _ => FE)
    (with_reducible rename News g' _ _ _ => NE)
    rename (_ < _ ∧ AllLt _ nw4) => le
    exact ⟨_, _, _, _, _, _, _, _, rfl, rfl, rfl, rfl, P4.get.1, .inr ⟨_, _, _, P4.get.2, rfl⟩, nofun, FE, NE, by assumption, le.1⟩
  clear E4 M4
  intro h4x k4x l4 op4 tx4 ld4 od4 c4 a4 b4 d4 e4 f4 E5 M5 p4 q4
  obtain ⟨nw5, e5z⟩ : ∃ nw5, nw5 = (l4, op4) :: (ld4, od4) :: nw4 := ⟨_, rfl⟩
  have s5 : ∀ p ∈ nw4, p ∈ nw5 := fun p hp => by rw [e5z]; exact .tail _ (.tail _ hp)
  have m5 : (l4, op4) ∈ nw5 := by rw [e5z]; exact .head _
  have n5 : (ld4, od4) ∈ nw5 := by rw [e5z]; exact .tail _ (.head _)
  rw [← e5z] at M5
  clear e5z
  k_steps
  refine cutE E5 nw5 (xh ++ PySem.Str.ofString ":" ++ xm ++ PySem.Str.ofString ":" ++ xs ++ PySem.Str.ofString ";" ++ fg) false (fun E' => ?_) ?_
  · walk1
    k_steps
    (with_reducible rename Fr g' _ _ _ => FE)
    (with_reducible rename News g' _ _ _ => NE)
    rename (_ < _ ∧ AllLt _ nw5) => le
    exact ⟨_, _, _, _, _, _, _, _, rfl, rfl, rfl, rfl, P5.get.1, .inr ⟨_, _, _, P5.get.2, rfl⟩, nofun, FE, NE, by assumption, le.1⟩
  clear E5 M5
  intro h5x k5x l5 op5 tx5 ld5 od5 c5 a5 b5 d5 e5 f5 E6 M6 p5 q5
  obtain ⟨nw6, e6z⟩ : ∃ nw6, nw6 = (l5, op5) :: (ld5, od5) :: nw5 := ⟨_, rfl⟩
  have s6 : ∀ p ∈ nw5, p ∈ nw6 := fun p hp => by rw [e6z]; exact .tail _ (.tail _ hp)
  have m6 : (l5, op5) ∈ nw6 := by rw [e6z]; exact .head _
  have n6 : (ld5, od5) ∈ nw6 := by rw [e6z]; exact .tail _ (.head _)
  rw [← e6z] at M6
  clear e6z
  k_steps
  refine cutE E6 nw6 (xh ++ PySem.Str.ofString ":" ++ xm ++ PySem.Str.ofString ":" ++ xs ++ PySem.Str.ofString "." ++ fg ++ PySem.Str.ofString "x") false (fun E' => ?_) ?_
  · walk1
    k_steps
    (with_reducible rename Fr g' _ _ _ => FE)
    (with_reducible rename News g' _ _ _ => NE)
    rename (_ < _ ∧ AllLt _ nw6) => le
    exact ⟨_, _, _, _, _, _, _, _, rfl, rfl, rfl, rfl, P6.get.1, .inr ⟨_, _, _, P6.get.2, rfl⟩, nofun, FE, NE, by assumption, le.1⟩
  clear E6 M6
  intro h6x k6x l6 op6 tx6 ld6 od6 c6 a6 b6 d6 e6 f6 E7 M7 p6 q6
  obtain ⟨nw7, e7z⟩ : ∃ nw7, nw7 = (l6, op6) :: (ld6, od6) :: nw6 := ⟨_, rfl⟩
  have s7 : ∀ p ∈ nw6, p ∈ nw7 := fun p hp => by rw [e7z]; exact .tail _ (.tail _ hp)
  have m7 : (l6, op6) ∈ nw7 := by rw [e7z]; exact .head _
  have n7 : (ld6, od6) ∈ nw7 := by rw [e7z]; exact .tail _ (.head _)
  rw [← e7z] at M7
  clear e7z
  k_steps
  refine cutE E7 nw7 (xh ++ PySem.Str.ofString ":" ++ xm ++ PySem.Str.ofString ":x" ++ Txt.slice xs (some 1) none) false (fun E' => ?_) ?_
  · walk1
    k_steps
    (with_reducible rename Fr g' _ _ _ => FE)
    (with_reducible rename News g' _ _ _ => NE)
    rename (_ < _ ∧ AllLt _ nw7) => le
    exact ⟨_, _, _, _, _, _, _, _, rfl, rfl, rfl, rfl, P7.get.1, .inr ⟨_, _, _, P7.get.2, rfl⟩, nofun, FE, NE, by assumption, le.1⟩
  clear E7 M7
  intro h7x k7x l7 op7 tx7 ld7 od7 c7 a7 b7 d7 e7 f7 E8 M8 p7 q7
  obtain ⟨nw8, e8z⟩ : ∃ nw8, nw8 = (l7, op7) :: (ld7, od7) :: nw7 := ⟨_, rfl⟩
  have s8 : ∀ p ∈ nw7, p ∈ nw8 := fun p hp => by rw [e8z]; exact .tail _ (.tail _ hp)
  have m8 : (l7, op7) ∈ nw8 := by rw [e8z]; exact .head _
  have n8 : (ld7, od7) ∈ nw8 := by rw [e8z]; exact .tail _ (.head _)
  rw [← e8z] at M8
  clear e8z
  k_steps
  have h8 : w0 = 0 ∨ w0 = 1 ∨ w0 = 2 ∨ w0 = 3 ∨ w0 = 4 ∨ w0 = 5 ∨ w0 = 6 ∨ w0 = 7 := by omega
  rcases h8 with rfl | rfl | rfl | rfl | rfl | rfl | rfl | rfl
  · refine item_tupleT (News.isTup (by k_asm) (by k_mem)) (by decide) (by decide) (by rfl) (by rfl) ?_
    k_steps
    (with_reducible rename Fr h₀ L _ m => FE)
    (with_reducible rename News h₀ L _ _ => NE)
    exact hok _ _ _ _ _ _ _ _ _ a0 b0 d0 e0 (fun z => f0 rfl) FE (news_sub NE (List.forall_mem_cons.mpr ⟨.tail _ (s8 _ (s7 _ (s6 _ (s5 _ (s4 _ (s3 _ (s2 _ (m1)))))))), List.forall_mem_cons.mpr ⟨.tail _ (s8 _ (s7 _ (s6 _ (s5 _ (s4 _ (s3 _ (s2 _ (n1)))))))), fun p hp => .tail _ (s8 _ (s7 _ (s6 _ (s5 _ (s4 _ (s3 _ (s2 _ (s1 _ (hp)))))))))⟩⟩)) (fun p hp => p0 p (hp)) q0
  · refine item_tupleT (News.isTup (by k_asm) (by k_mem)) (by decide) (by decide) (by rfl) (by rfl) ?_
    k_steps
    (with_reducible rename Fr h₀ L _ m => FE)
    (with_reducible rename News h₀ L _ _ => NE)
    exact hok _ _ _ _ _ _ _ _ _ a1 b1 d1 e1 (fun z => absurd (hn0 z) (by decide)) FE (news_sub NE (List.forall_mem_cons.mpr ⟨.tail _ (s8 _ (s7 _ (s6 _ (s5 _ (s4 _ (s3 _ (m2))))))), List.forall_mem_cons.mpr ⟨.tail _ (s8 _ (s7 _ (s6 _ (s5 _ (s4 _ (s3 _ (n2))))))), fun p hp => .tail _ (s8 _ (s7 _ (s6 _ (s5 _ (s4 _ (s3 _ (s2 _ (s1 _ (hp)))))))))⟩⟩)) (fun p hp => p1 p (s1 _ (hp))) q1
  · refine item_tupleT (News.isTup (by k_asm) (by k_mem)) (by decide) (by decide) (by rfl) (by rfl) ?_
    k_steps
    (with_reducible rename Fr h₀ L _ m => FE)
    (with_reducible rename News h₀ L _ _ => NE)
    exact hok _ _ _ _ _ _ _ _ _ a2 b2 d2 e2 (fun z => absurd (hn0 z) (by decide)) FE (news_sub NE (List.forall_mem_cons.mpr ⟨.tail _ (s8 _ (s7 _ (s6 _ (s5 _ (s4 _ (m3)))))), List.forall_mem_cons.mpr ⟨.tail _ (s8 _ (s7 _ (s6 _ (s5 _ (s4 _ (n3)))))), fun p hp => .tail _ (s8 _ (s7 _ (s6 _ (s5 _ (s4 _ (s3 _ (s2 _ (s1 _ (hp)))))))))⟩⟩)) (fun p hp => p2 p (s2 _ (s1 _ (hp)))) q2
  · refine item_tupleT (News.isTup (by k_asm) (by k_mem)) (by decide) (by decide) (by rfl) (by rfl) ?_
    k_steps
    (with_reducible rename Fr h₀ L _ m => FE)
    (with_reducible rename News h₀ L _ _ => NE)
    exact hok _ _ _ _ _ _ _ _ _ a3 b3 d3 e3 (fun z => absurd (hn0 z) (by decide)) FE (news_sub NE (List.forall_mem_cons.mpr ⟨.tail _ (s8 _ (s7 _ (s6 _ (s5 _ (m4))))), List.forall_mem_cons.mpr ⟨.tail _ (s8 _ (s7 _ (s6 _ (s5 _ (n4))))), fun p hp => .tail _ (s8 _ (s7 _ (s6 _ (s5 _ (s4 _ (s3 _ (s2 _ (s1 _ (hp)))))))))⟩⟩)) (fun p hp => p3 p (s3 _ (s2 _ (s1 _ (hp))))) q3
  · refine item_tupleT (News.isTup (by k_asm) (by k_mem)) (by decide) (by decide) (by rfl) (by rfl) ?_
    k_steps
    (with_reducible rename Fr h₀ L _ m => FE)
    (with_reducible rename News h₀ L _ _ => NE)
    exact hok _ _ _ _ _ _ _ _ _ a4 b4 d4 e4 (fun z => absurd (hn0 z) (by decide)) FE (news_sub NE (List.forall_mem_cons.mpr ⟨.tail _ (s8 _ (s7 _ (s6 _ (m5)))), List.forall_mem_cons.mpr ⟨.tail _ (s8 _ (s7 _ (s6 _ (n5)))), fun p hp => .tail _ (s8 _ (s7 _ (s6 _ (s5 _ (s4 _ (s3 _ (s2 _ (s1 _ (hp)))))))))⟩⟩)) (fun p hp => p4 p (s4 _ (s3 _ (s2 _ (s1 _ (hp)))))) q4
  · refine item_tupleT (News.isTup (by k_asm) (by k_mem)) (by decide) (by decide) (by rfl) (by rfl) ?_
    k_steps
    (with_reducible rename Fr h₀ L _ m => FE)
    (with_reducible rename News h₀ L _ _ => NE)
    exact hok _ _ _ _ _ _ _ _ _ a5 b5 d5 e5 (fun z => absurd (hn0 z) (by decide)) FE (news_sub NE (List.forall_mem_cons.mpr ⟨.tail _ (s8 _ (s7 _ (m6))), List.forall_mem_cons.mpr ⟨.tail _ (s8 _ (s7 _ (n6))), fun p hp => .tail _ (s8 _ (s7 _ (s6 _ (s5 _ (s4 _ (s3 _ (s2 _ (s1 _ (hp)))))))))⟩⟩)) (fun p hp => p5 p (s5 _ (s4 _ (s3 _ (s2 _ (s1 _ (hp))))))) q5
  · refine item_tupleT (News.isTup (by k_asm) (by k_mem)) (by decide) (by decide) (by rfl) (by rfl) ?_
    k_steps
    (with_reducible rename Fr h₀ L _ m => FE)
    (with_reducible rename News h₀ L _ _ => NE)
    exact hok _ _ _ _ _ _ _ _ _ a6 b6 d6 e6 (fun z => absurd (hn0 z) (by decide)) FE (news_sub NE (List.forall_mem_cons.mpr ⟨.tail _ (s8 _ (m7)), List.forall_mem_cons.mpr ⟨.tail _ (s8 _ (n7)), fun p hp => .tail _ (s8 _ (s7 _ (s6 _ (s5 _ (s4 _ (s3 _ (s2 _ (s1 _ (hp)))))))))⟩⟩)) (fun p hp => p6 p (s6 _ (s5 _ (s4 _ (s3 _ (s2 _ (s1 _ (hp)))))))) q6
  · refine item_tupleT (News.isTup (by k_asm) (by k_mem)) (by decide) (by decide) (by rfl) (by rfl) ?_
    k_steps
    (with_reducible rename Fr h₀ L _ m => FE)
    (with_reducible rename News h₀ L _ _ => NE)
    exact hok _ _ _ _ _ _ _ _ _ a7 b7 d7 e7 (fun z => absurd (hn0 z) (by decide)) FE (news_sub NE (List.forall_mem_cons.mpr ⟨.tail _ (m8), List.forall_mem_cons.mpr ⟨.tail _ (n8), fun p hp => .tail _ (s8 _ (s7 _ (s6 _ (s5 _ (s4 _ (s3 _ (s2 _ (s1 _ (hp)))))))))⟩⟩)) (fun p hp => p7 p (s7 _ (s6 _ (s5 _ (s4 _ (s3 _ (s2 _ (s1 _ (hp))))))))) q7
end
end Mine
end
section
open PySem PySem.W PyProof.Rows PySem.Calls PySem.Spec
set_option maxRecDepth 100000
namespace Mine
open LCg LCt
section
variable {prog : Program} {w : World} {A : Around} {E : Value → Shared → Prop} {s : Shared} {h₀ : Heap} {L : Addr} {m : Str → Option Value} {env : Env}
/-- a test that says no and changes nothing that the ledger speaks of -/
def TestOff (h₀ : Heap) (L : Addr) (m : Str → Option Value) (s : Shared) (led : List (Addr × Obj)) (ok : Bool) (s' : Shared) : Prop :=
  ok = false ∧ ∃ h' tk, s' = { s with heap := h', toks := tk } ∧ Fr h₀ L h' m ∧ News h₀ L h' led
theorem TestOff.intro {led led' : List (Addr × Obj)} {h' : Heap} {tk : Nat} (F : Fr h₀ L h' m) (N : News h₀ L h' led') (hs : ∀ p ∈ led, p ∈ led') : TestOff h₀ L m s led false { s with heap := h', toks := tk } :=
  ⟨rfl, h', tk, rfl, F, fun p hp => N p (hs p hp)⟩

theorem compRestT_none {ct elt : Expr} {x : Str} {scope : Scope} {cl : List (Str × Addr)} {S : List (Addr × Obj) → Prop} {P : Nat → Value → Prop} {Fin : List Value → List (Addr × Obj) → Prop} {news : List (Addr × Obj)}
    (hS : S news) (hfin : Fin [] news)
    (htest : ∀ (i : Nat) (v : Value) (I : Addr) (oI : Obj) (C : Addr) (oC : Obj) (D : Addr) (m₂ : Str → Option Value) (h : Heap) (tk : Nat) (E' : Value → Shared → Prop), P i v → NsObj oC m₂ → m₂ x = some v → Fr h₀ L h m → News h₀ L h ((I, oI) :: (C, oC) :: (D, lst []) :: news) →
      wpAny (model prog w) A (isTrue ct (compEnvC scope cl C env) (eval ct (compEnvC scope cl C env))) (TestOff h₀ L m { s with heap := h, toks := tk } ((I, oI) :: (C, oC) :: (D, lst []) :: news)) E' { s with heap := h, toks := tk }) :
    ∀ k i, CompRestT prog w A h₀ L m env ct elt x scope cl s S P Fin k i [] news
  | 0, _ => hfin
  | k + 1, i => fun v I oI C oC D m₂ h tk E' hP hC hm F N off d => by
    refine wpAny_mono (htest i v I oI C oC D m₂ h tk E' hP hC hm F N) (fun ok s' q => ?_) fun _ _ e => e
    obtain ⟨rfl, h', tk', rfl, F', N'⟩ := q
    simp only [Bool.false_eq_true, if_false]
    exact ⟨h', tk', news, rfl, F', N', off, hS, compRestT_none hS hfin htest k (i + 1)⟩

theorem ListComp_none {ct elt iter : Expr} {x : Str} {px : Pos} {scope : Scope} {cl : List (Str × Addr)} {pos : Pos} {Q : Value → Shared → Prop} {ax : Addr} {items : Array Value} {n : Nat} {news : List (Addr × Obj)}
    (F : Fr h₀ L s.heap m) (N : News h₀ L s.heap news) (hh : A.handled = none)
    (hev : ∀ Q' : Value → Shared → Prop, Q' (.ref ax) s → wpAny (model prog w) A (eval iter env) Q' E s)
    (ht : (ax, ({ cls := .type "tuple", data := .seq items n } : Obj)) ∈ news ∨ (ax, W.listOf items n) ∈ news) (hsz : items.size ≤ sizeLine)
    (hclos : closureFor scope env = pure cl) (hcell : ∀ y ∈ scope.names, y.2 ≠ .cell) (hkind : scope.kind = .function)
    (hnames : ∀ y ∈ scope.names, y.2 = .local → scope.names.lookup y.1 = some .local) (hx : scope.names.lookup x = some .local) (hs : ∀ x, foldedSetIterable iter env x = pure x)
    (htest : ∀ (i : Nat) (v : Value) (I : Addr) (oI : Obj) (C : Addr) (oC : Obj) (D : Addr) (m₂ : Str → Option Value) (h : Heap) (tk : Nat) (E' : Value → Shared → Prop), items[i]? = some v → NsObj oC m₂ → m₂ x = some v → Fr h₀ L h m → News h₀ L h ((I, oI) :: (C, oC) :: (D, lst []) :: news) →
      wpAny (model prog w) A (isTrue ct (compEnvC scope cl C env) (eval ct (compEnvC scope cl C env))) (TestOff h₀ L m { s with heap := h, toks := tk } ((I, oI) :: (C, oC) :: (D, lst []) :: news)) E' { s with heap := h, toks := tk })
    (fin : ∀ D h tk, Fr h₀ L h m → News h₀ L h ((D, lst []) :: news) → Off1 D news → Q (.ref D) { s with heap := h, toks := tk }) :
    wpAny (model prog w) A (eval (.ListComp elt [⟨.Name x px, iter, [ct], 0⟩] scope pos) env) Q E s := by
  rw [eval_ListComp]
  refine wpAny_comprehension_free (use := none) rfl hs hclos hkind hnames (hev _ ?_)
  have rr : ∀ s₂ : Shared, (∃ h, s₂ = { s with heap := h }) → ∀ D C h tk m' ys news', Fr h₀ L h m → News h₀ L h ((D, lst ys) :: news') → Off1 D news' → h.Ns C m' → h₀.get? C = none → h₀.get? D = none → C ≠ L → D ≠ L → C ≠ D → (∀ p ∈ news', p.1 ≠ C) → (fun ys nw => ys = [] ∧ nw = news) ys news' →
      compPost (model prog w) A E none Q (.ref D) C (.ok .next) { s₂ with heap := h, toks := tk } := by
    rintro _ ⟨h1, rfl⟩ D C h tk m' ys news' F' N' o1 hn hC₀ hD₀ hCL hDL hCD offC ⟨rfl, rfl⟩
    refine ⟨m', hn, fun h'' hs'' => fin D h'' tk (F'.change hs'' hCL hC₀) (fun p hp => ?_) o1⟩
    refine ⟨hs''.extBut _ _ ?_ (N' p hp).1, (N' p hp).2⟩
    rcases List.mem_cons.mp hp with rfl | hp
    · exact Ne.symm hCD
    · exact offC p hp
  rcases ht with ht | ht
  · have hl : s.heap.IsTuple ax items := ⟨_, (N _ ht).1, rfl, n, rfl⟩
    have hlt : ax < s.heap.objs.size := Heap.lt_size (N _ ht).1
    refine wpAny_pyIter_tuple hl ?_
    have up : ∀ b o, s.heap.get? b = some o → (s.heap.push { cls := .type "tuple_iterator", data := .fields #[.ref ax, .int 0 0] }).get? b = some o := fun b o e => Heap.get?_push_of_some _ e
    refine block_T (S := fun nw => (ax, ({ cls := .type "tuple", data := .seq items n } : Obj)) ∈ nw) (Fin := fun ys nw => ys = [] ∧ nw = news) (Walks.tuple hh s.heap.objs.size ax (Nat.ne_of_lt hlt) items) hsz (fun i h st => by obtain ⟨o, e, _⟩ := st.1; exact ⟨o, e⟩)
      (fun i h h' o nw st e e' k N S => ⟨by obtain ⟨o', q, r⟩ := st.1; rw [e] at q; cases q; exact ⟨o, e', r⟩, ⟨_, (N _ S).1, rfl, n, rfl⟩⟩) hcell hkind hx ⟨⟨_, Heap.get?_push_size _ rfl, rfl, rfl⟩, hl.at fun o e => up _ o e⟩ (fun b hb => ?_)
      (F.keeps up) (N.grown up) (Nat.ne_of_lt F.ns.lt) (next_is_new F) (fun p hp => Nat.ne_of_lt (Heap.lt_size (N p hp).1)) ht (compRestT_none (s := { s with heap := s.heap.push _ }) (S := fun nw => (ax, ({ cls := .type "tuple", data := .seq items n } : Obj)) ∈ nw) (P := fun i v => items[i]? = some v) (Fin := fun ys nw => ys = [] ∧ nw = news) ht (And.intro rfl rfl) (fun i v I oI C oC D m₂ h tk E' hP hC hm F' N' => htest i v I oI C oC D m₂ h tk E' hP hC hm F' N') _ _) (rr _ ⟨_, rfl⟩)
    show b < (s.heap.push _).objs.size
    rw [Heap.size_push]
    rcases List.mem_cons.mp hb with rfl | hb
    · exact Nat.lt_succ_self _
    · rw [List.mem_singleton.mp hb]; exact Nat.lt_succ_of_lt hlt
  · have hl : s.heap.IsList ax items := ⟨_, (N _ ht).1, rfl, n, rfl⟩
    have hlt : ax < s.heap.objs.size := Heap.lt_size (N _ ht).1
    refine wpAny_pyIter_list hl ?_
    have up : ∀ b o, s.heap.get? b = some o → (s.heap.push { cls := .type "list_iterator", data := .fields #[.ref ax, .int 0 0] }).get? b = some o := fun b o e => Heap.get?_push_of_some _ e
    refine block_T (S := fun nw => (ax, W.listOf items n) ∈ nw) (Fin := fun ys nw => ys = [] ∧ nw = news) (Walks.list hh s.heap.objs.size ax (Nat.ne_of_lt hlt) items) hsz (fun i h st => by obtain ⟨o, e, _⟩ := st.1; exact ⟨o, e⟩)
      (fun i h h' o nw st e e' k N S => ⟨by obtain ⟨o', q, r⟩ := st.1; rw [e] at q; cases q; exact ⟨o, e', r⟩, ⟨_, (N _ S).1, rfl, n, rfl⟩⟩) hcell hkind hx ⟨⟨_, Heap.get?_push_size _ rfl, rfl, rfl⟩, hl.at fun o e => up _ o e⟩ (fun b hb => ?_)
      (F.keeps up) (N.grown up) (Nat.ne_of_lt F.ns.lt) (next_is_new F) (fun p hp => Nat.ne_of_lt (Heap.lt_size (N p hp).1)) ht (compRestT_none (s := { s with heap := s.heap.push _ }) (S := fun nw => (ax, W.listOf items n) ∈ nw) (P := fun i v => items[i]? = some v) (Fin := fun ys nw => ys = [] ∧ nw = news) ht (And.intro rfl rfl) (fun i v I oI C oC D m₂ h tk E' hP hC hm F' N' => htest i v I oI C oC D m₂ h tk E' hP hC hm F' N') _ _) (rr _ ⟨_, rfl⟩)
    show b < (s.heap.push _).objs.size
    rw [Heap.size_push]
    rcases List.mem_cons.mp hb with rfl | hb
    · exact Nat.lt_succ_self _
    · rw [List.mem_singleton.mp hb]; exact Nat.lt_succ_of_lt hlt

/-- a test that answers b and changes nothing that the ledger speaks of -/
def TestIs (h₀ : Heap) (L : Addr) (m : Str → Option Value) (s : Shared) (led : List (Addr × Obj)) (b : Bool) (ok : Bool) (s' : Shared) : Prop :=
  ok = b ∧ ∃ h' tk, s' = { s with heap := h', toks := tk } ∧ Fr h₀ L h' m ∧ News h₀ L h' led
theorem TestIs.intro {led led' : List (Addr × Obj)} {h' : Heap} {tk : Nat} {b ok : Bool} (e : ok = b) (F : Fr h₀ L h' m) (N : News h₀ L h' led') (hs : ∀ p ∈ led, p ∈ led') : TestIs h₀ L m s led b ok { s with heap := h', toks := tk } :=
  ⟨e, h', tk, rfl, F, fun p hp => N p (hs p hp)⟩

theorem compRestT_filt {ct : Expr} {x : Str} {pe : Pos} {scope : Scope} {cl : List (Str × Addr)} {S : List (Addr × Obj) → Prop} {items : Array Value} {Fin : List Value → List (Addr × Obj) → Prop} {news : List (Addr × Obj)} (p : Value → Bool)
    (hS : S news) (hfin : Fin (items.toList.filter p) news) (hkind : scope.kind = .function) (hx : scope.names.lookup x = some .local) (hd : (x == ("__debug__" : Str)) = false)
    (htest : ∀ (i : Nat) (v : Value) (ys : List Value) (I : Addr) (oI : Obj) (C : Addr) (oC : Obj) (D : Addr) (m₂ : Str → Option Value) (h : Heap) (tk : Nat) (E' : Value → Shared → Prop), items[i]? = some v → NsObj oC m₂ → m₂ x = some v → Fr h₀ L h m → News h₀ L h ((I, oI) :: (C, oC) :: (D, lst ys) :: news) →
      wpAny (model prog w) A (isTrue ct (compEnvC scope cl C env) (eval ct (compEnvC scope cl C env))) (TestIs h₀ L m { s with heap := h, toks := tk } ((I, oI) :: (C, oC) :: (D, lst ys) :: news) (p v)) E' { s with heap := h, toks := tk }) :
    ∀ k i, i + k = items.size → CompRestT prog w A h₀ L m env ct (.Name x pe) x scope cl s S (fun i v => items[i]? = some v) Fin k i ((items.toList.take i).filter p) news
  | 0, i, hk => by
    rw [List.take_of_length_le (by simp; omega)]
    exact hfin
  | k + 1, i, hk => fun v I oI C oC D m₂ h tk E' hP hC hm F N off d => by
    have hn := take_succ_filter p items.toList i v (by simpa using hP)
    have rest := compRestT_filt (pe := pe) p hS hfin hkind hx hd htest k (i + 1) (by omega)
    refine wpAny_mono (htest i v _ I oI C oC D m₂ h tk E' hP hC hm F N) (fun ok s' q => ?_) fun _ _ e => e
    obtain ⟨rfl, h', tk', rfl, F', N'⟩ := q
    cases hp : p v with
    | false =>
      simp only [Bool.false_eq_true, if_false]
      rw [hp] at hn
      simp only [Bool.false_eq_true, if_false, List.append_nil] at hn
      exact ⟨h', tk', news, rfl, F', N', off, hS, hn ▸ rest⟩
    | true =>
      simp only [if_true]
      rw [hp] at hn
      simp only [if_true] at hn
      rw [hn] at rest
      refine LCgL.ld_own N' (.tail _ (.head _)) hC hm ?_ (by simp [compEnvC, relabel, hkind]) (lookup_relabel_local hx) hd
      exact ⟨h', tk', news, rfl, F', N', off, hS, rest⟩

theorem ListComp_filt {ct iter : Expr} {x : Str} {px pe : Pos} {scope : Scope} {cl : List (Str × Addr)} {pos : Pos} {Q : Value → Shared → Prop} {ax : Addr} {items : Array Value} {n : Nat} {news : List (Addr × Obj)} (p : Value → Bool)
    (F : Fr h₀ L s.heap m) (N : News h₀ L s.heap news) (hh : A.handled = none)
    (hev : ∀ Q' : Value → Shared → Prop, Q' (.ref ax) s → wpAny (model prog w) A (eval iter env) Q' E s)
    (ht : (ax, W.listOf items n) ∈ news) (hsz : items.size ≤ sizeLine)
    (hclos : closureFor scope env = pure cl) (hcell : ∀ y ∈ scope.names, y.2 ≠ .cell) (hkind : scope.kind = .function)
    (hnames : ∀ y ∈ scope.names, y.2 = .local → scope.names.lookup y.1 = some .local) (hx : scope.names.lookup x = some .local) (hd : (x == ("__debug__" : Str)) = false) (hs : ∀ x, foldedSetIterable iter env x = pure x)
    (htest : ∀ (i : Nat) (v : Value) (ys : List Value) (I : Addr) (oI : Obj) (C : Addr) (oC : Obj) (D : Addr) (m₂ : Str → Option Value) (h : Heap) (tk : Nat) (E' : Value → Shared → Prop), items[i]? = some v → NsObj oC m₂ → m₂ x = some v → Fr h₀ L h m → News h₀ L h ((I, oI) :: (C, oC) :: (D, lst ys) :: news) →
      wpAny (model prog w) A (isTrue ct (compEnvC scope cl C env) (eval ct (compEnvC scope cl C env))) (TestIs h₀ L m { s with heap := h, toks := tk } ((I, oI) :: (C, oC) :: (D, lst ys) :: news) (p v)) E' { s with heap := h, toks := tk })
    (fin : ∀ D h tk, Fr h₀ L h m → News h₀ L h ((D, lst (items.toList.filter p)) :: news) → Off1 D news → Q (.ref D) { s with heap := h, toks := tk }) :
    wpAny (model prog w) A (eval (.ListComp (.Name x pe) [⟨.Name x px, iter, [ct], 0⟩] scope pos) env) Q E s := by
  rw [eval_ListComp]
  refine wpAny_comprehension_free (use := none) rfl hs hclos hkind hnames (hev _ ?_)
  have rr : ∀ s₂ : Shared, (∃ h, s₂ = { s with heap := h }) → ∀ D C h tk m' ys news', Fr h₀ L h m → News h₀ L h ((D, lst ys) :: news') → Off1 D news' → h.Ns C m' → h₀.get? C = none → h₀.get? D = none → C ≠ L → D ≠ L → C ≠ D → (∀ p ∈ news', p.1 ≠ C) → (fun ys nw => ys = items.toList.filter p ∧ nw = news) ys news' →
      compPost (model prog w) A E none Q (.ref D) C (.ok .next) { s₂ with heap := h, toks := tk } := by
    rintro _ ⟨h1, rfl⟩ D C h tk m' ys news' F' N' o1 hn hC₀ hD₀ hCL hDL hCD offC ⟨rfl, rfl⟩
    refine ⟨m', hn, fun h'' hs'' => fin D h'' tk (F'.change hs'' hCL hC₀) (fun p hp => ?_) o1⟩
    refine ⟨hs''.extBut _ _ ?_ (N' p hp).1, (N' p hp).2⟩
    rcases List.mem_cons.mp hp with rfl | hp
    · exact Ne.symm hCD
    · exact offC p hp
  have hl : s.heap.IsList ax items := ⟨_, (N _ ht).1, rfl, n, rfl⟩
  have hlt : ax < s.heap.objs.size := Heap.lt_size (N _ ht).1
  refine wpAny_pyIter_list hl ?_
  have up : ∀ b o, s.heap.get? b = some o → (s.heap.push { cls := .type "list_iterator", data := .fields #[.ref ax, .int 0 0] }).get? b = some o := fun b o e => Heap.get?_push_of_some _ e
  refine block_T (S := fun nw => (ax, W.listOf items n) ∈ nw) (Fin := fun ys nw => ys = items.toList.filter p ∧ nw = news) (Walks.list hh s.heap.objs.size ax (Nat.ne_of_lt hlt) items) hsz (fun i h st => by obtain ⟨o, e, _⟩ := st.1; exact ⟨o, e⟩)
    (fun i h h' o nw st e e' k N S => ⟨by obtain ⟨o', q, r⟩ := st.1; rw [e] at q; cases q; exact ⟨o, e', r⟩, ⟨_, (N _ S).1, rfl, n, rfl⟩⟩) hcell hkind hx ⟨⟨_, Heap.get?_push_size _ rfl, rfl, rfl⟩, hl.at fun o e => up _ o e⟩ (fun b hb => ?_)
    (F.keeps up) (N.grown up) (Nat.ne_of_lt F.ns.lt) (next_is_new F) (fun p hp => Nat.ne_of_lt (Heap.lt_size (N p hp).1)) ht (compRestT_filt (s := { s with heap := s.heap.push _ }) (S := fun nw => (ax, W.listOf items n) ∈ nw) (Fin := fun ys nw => ys = items.toList.filter p ∧ nw = news) p ht (And.intro rfl rfl) hkind hx hd (fun i v ys I oI C oC D m₂ h tk E' hP hC hm F' N' => htest i v ys I oI C oC D m₂ h tk E' hP hC hm F' N') items.size 0 (by omega)) (rr _ ⟨_, rfl⟩)
  show b < (s.heap.push _).objs.size
  rw [Heap.size_push]
  rcases List.mem_cons.mp hb with rfl | hb
  · exact Nat.lt_succ_self _
  · rw [List.mem_singleton.mp hb]; exact Nat.lt_succ_of_lt hlt
end
end Mine
end
section
open PySem PySem.W PyProof.Rows PySem.Calls PySem.Spec
set_option maxRecDepth 100000
namespace Mine
open LCg LCt
section
variable {prog : Program} {w : World} {A : Around} {E : Value → Shared → Prop} {s : Shared} {h₀ : Heap} {L : Addr} {m : Str → Option Value} {env : Env}
theorem compRest_invS {elt : Expr} {x : Str} {scope : Scope} {cl : List (Str × Addr)} {items : Array Value} {S : List (Addr × Obj) → Prop} {Fin : List Value → List (Addr × Obj) → Prop} (J : Nat → List Value → List (Addr × Obj) → Prop)
    (hk : ∀ i ys nw, J i ys nw → S nw)
    (turn : ∀ i v ys nw I oI C oC D m₂ h tk (E' : Value → Shared → Prop), items[i]? = some v → J i ys nw → NsObj oC m₂ → m₂ x = some v → Fr h₀ L h m → News h₀ L h ((I, oI) :: (C, oC) :: (D, lst ys) :: nw) → Off3 I C D nw → ((@Ne Nat I C) ∧ (@Ne Nat I D) ∧ (@Ne Nat C D)) →
      wpAny (model prog w) A (eval elt (compEnvC scope cl C env)) (CompEnd h₀ L m { s with heap := h, toks := tk } I oI C oC D (lst ys) (fun _ => True) (fun y nw' => J (i + 1) (ys ++ [y]) nw')) E' { s with heap := h, toks := tk })
    (done : ∀ ys nw, J items.size ys nw → Fin ys nw) :
    ∀ k i ys nw, i + k = items.size → J i ys nw → CompRest prog w A h₀ L m env elt x scope cl s S (fun i v => items[i]? = some v) Fin k i ys nw
  | 0, i, ys, nw, e, hJ => done ys nw (by have : i = items.size := by omega
                                          rw [← this]; exact hJ)
  | k + 1, i, ys, nw, e, hJ => fun v I oI C oC D m₂ h tk E' hP hC hm F N off d => by
    refine wpAny_mono (turn i v ys nw I oI C oC D m₂ h tk E' hP hJ hC hm F N off d) (fun y s' q => ?_) fun _ _ e => e
    obtain ⟨h', tk', nw', rfl, F', N', off', _, r⟩ := q
    exact ⟨h', tk', nw', rfl, F', N', off', hk _ _ _ r, compRest_invS J hk turn done k (i + 1) _ nw' (by omega) r⟩

def SrcJ (prog : Program) (w : World) (A : Around) (h₀ : Heap) (L : Addr) (m : Str → Option Value) (env : Env) (elt : Expr) (x : Str) (scope : Scope) (cl : List (Str × Addr)) (Q : Value → Shared → Prop) (xv : Value) (s₁ : Shared) : Prop :=
  ∃ (J : Nat → List Value → List (Addr × Obj) → Prop) (ax : Addr) (items : Array Value) (n : Nat) (news : List (Addr × Obj)), xv = .ref ax ∧ A.handled = none ∧ Fr h₀ L s₁.heap m ∧ News h₀ L s₁.heap news ∧ items.size ≤ sizeLine ∧ J 0 [] news ∧ (∀ i ys nw, J i ys nw → (ax, W.listOf items n) ∈ nw) ∧
    (∀ i v ys nw I oI C oC D m₂ h tk (E' : Value → Shared → Prop), items[i]? = some v → J i ys nw → NsObj oC m₂ → m₂ x = some v → Fr h₀ L h m → News h₀ L h ((I, oI) :: (C, oC) :: (D, lst ys) :: nw) → Off3 I C D nw → ((@Ne Nat I C) ∧ (@Ne Nat I D) ∧ (@Ne Nat C D)) →
      wpAny (model prog w) A (eval elt (compEnvC scope cl C env)) (CompEnd h₀ L m { s₁ with heap := h, toks := tk } I oI C oC D (lst ys) (fun _ => True) (fun y nw' => J (i + 1) (ys ++ [y]) nw')) E' { s₁ with heap := h, toks := tk }) ∧
    (∀ D h tk ys nw, Fr h₀ L h m → News h₀ L h ((D, lst ys) :: nw) → Off1 D nw → J items.size ys nw → Q (.ref D) { s₁ with heap := h, toks := tk })
/-- a list comprehension over a list of the ledger, by an invariant -/
theorem ListComp_listJ {elt iter : Expr} {x : Str} {px : Pos} {scope : Scope} {cl : List (Str × Addr)} {pos : Pos} {Q : Value → Shared → Prop} (F₀ : Fr h₀ L s.heap m)
    (hclos : closureFor scope env = pure cl) (hcell : ∀ y ∈ scope.names, y.2 ≠ .cell) (hkind : scope.kind = .function)
    (hnames : ∀ y ∈ scope.names, y.2 = .local → scope.names.lookup y.1 = some .local) (hx : scope.names.lookup x = some .local) (hs : ∀ x, foldedSetIterable iter env x = pure x)
    (h : wpAny (model prog w) A (eval iter env) (SrcJ prog w A h₀ L m env elt x scope cl Q) E s) :
    wpAny (model prog w) A (eval (.ListComp elt [⟨.Name x px, iter, [], 0⟩] scope pos) env) Q E s := by
  refine ListComp_U F₀ hclos hcell hkind hnames hx (wpAny_mono h (fun xv s₁ q => ?_) fun _ _ e => e) hs
  obtain ⟨J, ax, items, n, news, rfl, hh, F, N, hsz, hj, ht, turn, fin⟩ := q
  refine CompSrc.ledger hh F N (ht _ _ _ hj) hsz fun g => ?_
  exact compRest_invS (s := { s₁ with heap := g }) J (fun i ys nw q => .inr ⟨_, ht _ _ _ q, rfl, _, rfl⟩) (fun i v ys nw I oI C oC D m₂ h tk E' a b c d e f g k => turn i v ys nw I oI C oC D m₂ h tk E' a b c d e f g k) (fun ys nw q D h tk F' N' o => fin D h tk ys nw F' N' o q) _ 0 [] news (Nat.zero_add _) hj
/-- the numbers below n -/
def upto (n : Nat) : List Int := (List.range n).map Int.ofNat
theorem upto_succ (n : Nat) : upto (n + 1) = upto n ++ [(n : Int)] := by simp [upto, List.range_succ]
theorem compRestT_range {ct : Expr} {x : Str} {pe : Pos} {scope : Scope} {cl : List (Str × Addr)} {Fin : List Value → List (Addr × Obj) → Prop} {news : List (Addr × Obj)} {n : Nat} (q : Int → Bool)
    (hfin : ∀ ys, IntsAre ys ((upto n).filter q) → Fin ys news) (hkind : scope.kind = .function) (hx : scope.names.lookup x = some .local) (hd : (x == ("__debug__" : Str)) = false)
    (htest : ∀ (i : Nat) (t : Tok) (ys : List Value) (I : Addr) (oI : Obj) (C : Addr) (oC : Obj) (D : Addr) (m₂ : Str → Option Value) (h : Heap) (tk : Nat) (E' : Value → Shared → Prop), i < n → NsObj oC m₂ → m₂ x = some (.int (i : Int) t) → Fr h₀ L h m → News h₀ L h ((I, oI) :: (C, oC) :: (D, lst ys) :: news) →
      wpAny (model prog w) A (isTrue ct (compEnvC scope cl C env) (eval ct (compEnvC scope cl C env))) (TestIs h₀ L m { s with heap := h, toks := tk } ((I, oI) :: (C, oC) :: (D, lst ys) :: news) (q i)) E' { s with heap := h, toks := tk }) :
    ∀ k i ys, i + k = n → IntsAre ys ((upto i).filter q) → CompRestT prog w A h₀ L m env ct (.Name x pe) x scope cl s (fun _ => True) (fun i v => ∃ t, v = .int (0 + (i : Int)) t) Fin k i ys news
  | 0, i, ys, hk, hi => hfin ys (by have e : i = n := by omega
                                    rw [← e]; exact hi)
  | k + 1, i, ys, hk, hi => fun v I oI C oC D m₂ h tk E' hP hC hm F N off d => by
    obtain ⟨t, rfl⟩ := hP
    have e0 : 0 + (i : Int) = i := Int.zero_add _
    rw [e0] at hm
    have rest := compRestT_range (pe := pe) q hfin hkind hx hd htest k (i + 1)
    refine wpAny_mono (htest i t _ I oI C oC D m₂ h tk E' (by omega) hC hm F N) (fun ok s' q' => ?_) fun _ _ e => e
    obtain ⟨rfl, h', tk', rfl, F', N'⟩ := q'
    cases hp : q i with
    | false =>
      simp only [Bool.false_eq_true, if_false]
      exact ⟨h', tk', news, rfl, F', N', off, trivial, rest _ (by omega) (by rw [upto_succ, List.filter_append]; simpa [hp] using hi)⟩
    | true =>
      simp only [if_true]
      refine LCgL.ld_own N' (.tail _ (.head _)) hC hm ?_ (by simp [compEnvC, relabel, hkind]) (lookup_relabel_local hx) hd
      exact ⟨h', tk', news, rfl, F', N', off, trivial, rest _ (by omega) (by rw [upto_succ, List.filter_append]; simpa [hp] using hi.append (.cons _ _ .nil))⟩
end
end Mine
end
section
open PySem PySem.W PyProof.Rows PySem.Calls PySem.Spec
set_option maxRecDepth 100000
namespace Mine
open LCg
section
variable {prog : Program} {w : World} {A : Around} {E : Value → Shared → Prop} {s : Shared} {h₀ : Heap} {L : Addr} {m : Str → Option Value} {env : Env}
def SrcA (prog : Program) (w : World) (A : Around) (h₀ : Heap) (L : Addr) (m : Str → Option Value) (env : Env) (elt : Expr) (x y : Str) (scope : Scope) (cl : List (Str × Addr)) (Q : Flow → Shared → Prop) (xv : Value) (s₁ : Shared) : Prop :=
  ∃ (J : Nat → List Value → List (Addr × Obj) → Prop) (ax : Addr) (items : Array Value) (n : Nat) (news : List (Addr × Obj)), xv = .ref ax ∧ A.handled = none ∧ Fr h₀ L s₁.heap m ∧ News h₀ L s₁.heap news ∧ items.size ≤ sizeLine ∧ J 0 [] news ∧ (∀ i ys nw, J i ys nw → (ax, W.listOf items n) ∈ nw) ∧
    (∀ i v ys nw I oI C oC D m₂ h tk (E' : Value → Shared → Prop), items[i]? = some v → J i ys nw → NsObj oC m₂ → m₂ x = some v → Fr h₀ L h m → News h₀ L h ((I, oI) :: (C, oC) :: (D, lst ys) :: nw) → Off3 I C D nw → ((@Ne Nat I C) ∧ (@Ne Nat I D) ∧ (@Ne Nat C D)) →
      wpAny (model prog w) A (eval elt (compEnvC scope cl C env)) (CompEnd h₀ L m { s₁ with heap := h, toks := tk } I oI C oC D (lst ys) (fun _ => True) (fun y nw' => J (i + 1) (ys ++ [y]) nw')) E' { s₁ with heap := h, toks := tk }) ∧
    (∀ D h tk ys nw, Fr h₀ L h (fun z => if z = y then some (.ref D) else m z) → News h₀ L h ((D, lst ys) :: nw) → Off1 D nw → J items.size ys nw → Q .next { s₁ with heap := h, toks := tk })
/-- a name is given a list comprehension over a list of the ledger, by an invariant -/
theorem Assign_listJ {elt iter : Expr} {x y : Str} {px py : Pos} {scope : Scope} {cl : List (Str × Addr)} {pos spos : Pos} {Q : Flow → Shared → Prop} (F₀ : Fr h₀ L s.heap m) (hLe : env.locals = L)
    (hsw : swapsWith (.ListComp elt [⟨.Name x px, iter, [], 0⟩] scope pos) (some (.Name y py)) spos.line env = pure true)
    (hclos : closureFor scope env = pure cl) (hcell : ∀ z ∈ scope.names, z.2 ≠ .cell) (hkind : scope.kind = .function)
    (hnames : ∀ z ∈ scope.names, z.2 = .local → scope.names.lookup z.1 = some .local) (hx : scope.names.lookup x = some .local)
    (hy : env.kindOf y = some .local) (hp : (env.scope.kind == .class || (env.scope.kind == .module && env.locals != env.globals)) = false)
    (h : wpAny (model prog w) A (eval iter env) (SrcA prog w A h₀ L m env elt x y scope cl Q) E s)
    (hs : ∀ x, foldedSetIterable iter env x = pure x := by intro _; rfl) :
    wpAny (model prog w) A (exec (.Assign [.Name y py] (.ListComp elt [⟨.Name x px, iter, [], 0⟩] scope pos) spos) env) Q E s := by
  refine Assign_ListComp_U F₀ hLe hsw hclos hcell hkind hnames hx hy hp (wpAny_mono h (fun xv s₁ q => ?_) fun _ _ e => e) hs
  obtain ⟨J, ax, items, n, news, rfl, hh, F, N, hsz, hj, ht, turn, fin⟩ := q
  refine CompSrc.ledger hh F N (ht _ _ _ hj) hsz fun g => ?_
  exact compRest_invS (s := { s₁ with heap := g }) J (fun i ys nw q => .inr ⟨_, ht _ _ _ q, rfl, _, rfl⟩) (fun i v ys nw I oI C oC D m₂ h tk E' a b c d e f g k => turn i v ys nw I oI C oC D m₂ h tk E' a b c d e f g k) (fun ys nw q D h tk F' N' o => fin D h tk ys nw F' N' o q) _ 0 [] news (Nat.zero_add _) hj
end
end Mine
end
section
open PySem PySem.W PyProof.Rows PySem.Calls
set_option maxRecDepth 100000
namespace Mine
theorem enter_callC {M : Model} {A : Around} {s : Shared} {f : Value} {pos : List Value} {kw : List (Str × Value)} {c : ClaimW} {cl : Str → Option Addr} {mean : ExcName → Option Value} {args : List WData} {s₁ : Shared}
    (h : codeC M A (.call f ⟨pos, kw⟩) (GoodWG c cl mean args s₁) s) : wpC M A (PySem.call f pos kw) (fun v s' => GoodWG c cl mean args s₁ (.ok (.ret v)) s') (fun e s' => GoodWG c cl mean args s₁ (.error e) s') s :=
  wpC_call (codeC_mono h fun res s' g => by rcases g.1 with ⟨v, _, _, rfl, _⟩ | ⟨e, _, _, rfl, _⟩ <;> exact g)
theorem call_fullC {prog : Program} {w : World} {A : Around} {R : Result → Shared → Prop} {s : Shared} {name : Str} {params : Arguments} {body : List Stmt} {scope : Scope}
    {dV kV pm cd doc : Value} {a : Addr} {o : Obj} {args : Args} {binds : List (Str × Value)}
    (hroom : A.depth < recursionLimit) (ho : s.heap.get? a = some o) (hdata : o.data = .func { docDef name params body scope pm cd doc with defaults := dV, kwdefaults := kV }) (hlim : s.heap.NoLimit) (hcd : s.heap.CodeRec cd name)
    (hbind : BindsTo s { docDef name params body scope pm cd doc with defaults := dV, kwdefaults := kV } args binds)
    (hloc : ∀ x ∈ binds, scope.names.lookup x.1 = some .local)
    (h : ∀ h₁, Fr s.heap s.heap.objs.size h₁ (fun x => binds.reverse.lookup x) →
      wpC (model prog w) (A.deeper (envOf name scope s.heap.objs.size a cd)) (execs body (envOf name scope s.heap.objs.size a cd))
        (fun f s' => R (.ok (.ret (match f with | .ret v => v | _ => .none))) s')
        (fun e s' => wpAny (model prog w) (A.deeper (envOf name scope s.heap.objs.size a cd)) (leaving (envOf name scope s.heap.objs.size a cd) e)
          (fun _ s'' => R (.error e) s'') (fun e' s'' => R (.error e') s'') s')
        { s with heap := h₁, toks := s.toks + binds.length })
    (hco : scope.isCoroutine = false := by rfl) (hgen : scope.isGenerator = false := by rfl) (hk : scope.kind = .function := by rfl)
    (hcell : ∀ x ∈ scope.names, x.2 ≠ .cell := by decide) :
    codeC (model prog w) A (.call (.ref a) args) R s :=
  codeC_call_def hroom ho hdata hlim hcd rfl hbind hcell hloc (fun h₁ hns hkeep => h h₁ ⟨hns, hkeep, Nat.le_refl _⟩) hco hgen hk
end Mine
end
section
open PySem PySem.W PyProof.Rows PySem.Calls
set_option maxRecDepth 100000
namespace Mine
section
variable {prog : Program} {w : World} {A : Around} {s : Shared} {env : Env} {R : Result → Shared → Prop}
theorem codeC_forLoopG {target : Expr} {it : Value} {body orelse : List Stmt} (I : Nat → Shared → Prop)
    (turn : ∀ n s, I n s → wpAny (model prog w) A (pyNext it) (fun r s₁ => match r with
      | none => wpAny (model prog w) A (execs orelse env) (fun f s₃ => R (.ok f) s₃) (notedBy (model prog w) A env fun e s' => R (.error e) s') s₁
      | some v => wpAny (model prog w) A (letOwnedTupleGo target it v) (fun _ s₀ => wpAny (model prog w) A (assign target env v) (fun _ s₂ => wpC (model prog w) A (execs body env) (fun f s₃ => match f with
          | .next | .cont => ∃ m, m < n ∧ I m s₃
          | .brk => R (.ok .next) s₃
          | .ret v => R (.ok (.ret v)) s₃) (notedBy (model prog w) A env fun e s' => R (.error e) s') s₂) (notedBy (model prog w) A env fun e s' => R (.error e) s') s₀) (notedBy (model prog w) A env fun e s' => R (.error e) s') s₁) (notedBy (model prog w) A env fun e s' => R (.error e) s') s)
    (n : Nat) (h : I n s) : codeC (model prog w) A (.forLoop target it body orelse env) R s := by
  refine codeC_loop rfl I (fun n s hI => ?_) n h
  show wpC _ A ((forTurn target it body orelse env).onRaise (fun x => do noteFrame x env; theTreesLotGoes x)) _ _ s
  refine wpC_onRaise (wpC_mono (E := notedBy (model prog w) A env fun e s' => R (.error e) s') ?_ (fun _ _ q => q) fun x s' hx => wpAny_bind (wpAny_mono hx (fun _ _ e => wpAny_theTreesLotGoes e) fun _ _ e => e))
  simp only [forTurn]
  refine wpC_standAt (wpC_bindA (wpAny_onRaise (wpAny_mono (turn n s hI) (fun r s₁ h₁ => ?_) fun _ _ h' => wpAny_standAt h')))
  cases r with
  | none => exact wpC_pure (.inr ⟨rfl, codeC_any (codeAny_block h₁)⟩)
  | some v =>
    dsimp only
    refine wpC_bindA (wpAny_mono h₁ (fun _ s₀ h₀ => ?_) fun _ _ h' => h')
    refine wpC_bindA (wpAny_mono h₀ (fun _ s₂ h₂ => wpC_bind (wpC_mono h₂ (fun f s₃ h₃ => ?_) fun _ _ h' => h')) fun _ _ h' => h')
    cases f with
    | next => exact wpC_pure (.inl ⟨rfl, h₃⟩)
    | cont => exact wpC_pure (.inl ⟨rfl, h₃⟩)
    | brk => exact wpC_pure h₃
    | ret v => exact wpC_pure h₃
end
section
variable {prog : Program} {w : World} {A : Around} {E : Value → Shared → Prop} {s : Shared} {env : Env} {h₀ : Heap} {target : Expr} {body : List Stmt} {Q : Flow → Shared → Prop}
/-- a `for` over a list of the ledger, any target, its body at stacks that bear the caller -/
theorem listC {l : Addr} {items : Array Value} {c : Nat} {m₀ : Str → Option Value} {news : List (Addr × Obj)}
    (J : Nat → (Str → Option Value) → List (Addr × Obj) → Prop)
    (hh : A.handled = none) (hl : ∀ i m nw, J i m nw → (l, listOf items c) ∈ nw)
    (F : Fr h₀ env.locals s.heap m₀) (N : News h₀ env.locals s.heap news) (hj : J 0 m₀ news) (hE : PassesOwn (model prog w) A env E)
    (turn : ∀ i v m₁ nw h tk I oI, i < items.size → items[i]? = some v → J i m₁ nw → (∀ p ∈ nw, p.1 ≠ I) → Fr h₀ env.locals h m₁ → News h₀ env.locals h ((I, oI) :: nw) →
      wpAny (model prog w) A (assign target env v) (fun _ s₃ => wpC (model prog w) A (execs body env) (JPost h₀ env.locals (J (i + 1)) I oI { s with heap := h, toks := tk } Q) E s₃) E { s with heap := h, toks := tk })
    (done : ∀ m' nw h tk, J items.size m' nw → Fr h₀ env.locals h m' → News h₀ env.locals h nw → Q .next { s with heap := h, toks := tk }) :
    wpAny (model prog w) A (pyIter (.ref l)) (fun it s₂ => codeC (model prog w) A (.forLoop target it body [] env) (fun r s' => match r with | .ok f => Q f s' | .error e => cameBackBy (model prog w) A env E e s') s₂) E s := by
  have hm := hl _ _ _ hj
  have hls : s.heap.IsList l items := ⟨_, (N _ hm).1, rfl, c, rfl⟩
  have hlt : l < s.heap.objs.size := Heap.lt_size (N _ hm).1
  refine wpAny_pyIter_list hls ?_
  have hnew := next_is_new F
  generalize hI : s.heap.objs.size = I at hnew ⊢
  have hLI : env.locals ≠ I := fun e => absurd F.ns.lt (by rw [e, ← hI]; exact Nat.lt_irrefl _)
  have hlI : l ≠ I := fun e => by rw [e, hI] at hlt; exact Nat.lt_irrefl _ hlt
  have W := Walks.list (prog := prog) (w := w) (A := A) hh I l hlI items
  refine codeC_forLoopG (fun k s' => ∃ h' tk m' nw i, s' = { s with heap := h', toks := tk } ∧ h'.IsListIter I l i ∧ Fr h₀ env.locals h' m' ∧ News h₀ env.locals h' nw ∧ (∀ p ∈ nw, p.1 ≠ I) ∧ J i m' nw ∧ i ≤ items.size ∧ k = items.size + 1 - i) ?_ (items.size + 1)
    ⟨_, _, m₀, news, 0, rfl, ⟨_, by rw [← hI]; exact Heap.get?_push_size _ rfl, rfl, rfl⟩, F.push _, fun p hq => ⟨Heap.get?_push_of_some _ (N p hq).1, (N p hq).2⟩, fun p hq e => ?_, hj, Nat.zero_le _, rfl⟩
  · rintro k s' ⟨h', tk, m', nw, i, rfl, hst, F', N', hoff, hJ, hi, rfl⟩
    have hm' := hl _ _ _ hJ
    have hls' : h'.IsList l items := ⟨_, (N' _ hm').1, rfl, c, rfl⟩
    have keep : ∀ h₁ : Heap, (∀ b o, b ∉ [I] → h'.get? b = some o → h₁.get? b = some o) → Fr h₀ env.locals h₁ m' ∧ News h₀ env.locals h₁ nw := fun h₁ hk => by
      refine ⟨⟨F'.ns.at' fun o e => hk _ o (fun q => hLI (List.mem_singleton.mp q)) e, fun b o e => hk b o (fun q => ?_) (F'.keep b o e), F'.above⟩, fun p hq => ⟨hk _ _ (fun q => hoff p hq (List.mem_singleton.mp q)) (N' p hq).1, (N' p hq).2⟩⟩
      rw [List.mem_singleton.mp q, hnew] at e
      cases e
    by_cases hlt : i < items.size
    · refine W.item i _ _ _ hlt ⟨hst, hls'⟩ fun v h₁ tk₁ hP hst₁ hk₁ => ?_
      obtain ⟨F₁, N₁⟩ := keep h₁ hk₁
      obtain ⟨oI, hoI, hcI, hdI⟩ := hst₁.1
      have N₃ : News h₀ env.locals h₁ ((I, oI) :: nw) := fun p hq => by
        rcases List.mem_cons.mp hq with rfl | hq
        · exact ⟨hoI, fun e => hLI e.symm, hnew⟩
        · exact N₁ p hq
      refine letGo_listiter (s' := { s with heap := h₁, toks := tk₁ }) hst₁.1 ?_
      refine wpAny_mono (turn i v m' nw h₁ tk₁ I oI hlt hP hJ hoff F₁ N₃) (fun _ s₃ q₃ => wpC_mono q₃ (fun f s₄ q => ?_) hE) hE
      have fin : JEnd h₀ env.locals (J (i + 1)) I oI { s with heap := h₁, toks := tk₁ } s₄ → ∃ m, m < items.size + 1 - i ∧ ∃ h' tk m' nw i, s₄ = { s with heap := h', toks := tk } ∧ h'.IsListIter I l i ∧ Fr h₀ env.locals h' m' ∧ News h₀ env.locals h' nw ∧ (∀ p ∈ nw, p.1 ≠ I) ∧ J i m' nw ∧ i ≤ items.size ∧ m = items.size + 1 - i := by
        rintro ⟨h₄, tk₄, m₄, nw₄, nx, rfl, F₄, N₄, hI₄, hx₄, ho₄, hJ₄⟩
        exact ⟨items.size + 1 - (i + 1), by omega, h₄, tk₄, m₄, nx, i + 1, rfl, ⟨oI, (N₄ _ hI₄).1, hcI, hdI⟩, F₄, fun p hq => N₄ p (hx₄ p hq), ho₄, hJ₄, hlt, rfl⟩
      cases f with
      | ret v => exact q
      | brk => exact q
      | next => exact fin q
      | cont => exact fin q
    · obtain rfl : i = items.size := by omega
      refine W.done _ _ _ ⟨hst, hls'⟩ fun h₁ tk₁ hk₁ => ?_
      obtain ⟨F₁, N₁⟩ := keep h₁ hk₁
      exact wpAny_execs_nil (done m' nw h₁ tk₁ hJ F₁ N₁)
  · have := Heap.lt_size (N p hq).1
    rw [e, ← hI] at this
    exact Nat.lt_irrefl _ this
end
end Mine
end
section
open PySem PySem.W PyProof.Rows PySem.Calls PySem.SeqAt
set_option maxRecDepth 100000
namespace Mine
section
variable {prog : Program} {w : World} {A : Around} {E : Value → Shared → Prop} {s : Shared} {h₀ : Heap} {L : Addr} {news : List (Addr × Obj)} {Q : Value → Shared → Prop}
theorem four_at {a b d f : Int} {t1 t2 t3 t4 u1 u2 u3 u4 : Tok} : ∀ j (h1 : j < #[Value.int a t1, .int b t2, .int d t3, .int f t4].size) (h2 : j < #[Value.int a u1, .int b u2, .int d u3, .int f u4].size), EqAt A s #[Value.int a t1, .int b t2, .int d t3, .int f t4][j] #[Value.int a u1, .int b u2, .int d u3, .int f u4][j] true := fun j h1 h2 => by
  have e : ∀ (n : Int) (t u : Tok), EqAt A s (.int n t) (.int n u) true := fun n t u => by
    have q := EqAt.int_int (A := A) (s := s) n t n u
    rwa [beq_self_eq_true] at q
  have hj : j = 0 ∨ j = 1 ∨ j = 2 ∨ j = 3 := by
    have : j < 4 := h1
    omega
  rcases hj with rfl | rfl | rfl | rfl <;> exact e _ _ _
theorem ne_four {R1 R2 : Addr} {a b d f : Int} {t1 t2 t3 t4 u1 u2 u3 u4 : Tok} {c1 c2 : Nat} (N : News h₀ L s.heap news) (m1 : (R1, W.listOf #[.int a t1, .int b t2, .int d t3, .int f t4] c1) ∈ news) (m2 : (R2, W.listOf #[.int a u1, .int b u2, .int d u3, .int f u4] c2) ∈ news)
  (hu : A.units < cLine) (h : Q (.bool false) s) : wpAny (model prog w) A (compareOp .NotEq (.ref R1) (.ref R2)) Q E s := by
  have q := RcNeAt.lists (A := A) (s := s) (l := R1) (b := R2) (e := fun _ => true) ⟨_, (N _ m1).1, rfl, _, rfl⟩ ⟨_, (N _ m2).1, rfl, _, rfl⟩ rfl hu four_at
  exact q prog w E Q h
theorem ne_msg {R1 R2 : Addr} {o1 o2 : Obj} {x : PySem.Str} {t u : Tok} {c1 c2 : Nat} (N : News h₀ L s.heap news) (m1 : (R1, o1) ∈ news) (m2 : (R2, o2) ∈ news) (k1 : o1.cls = .type "tuple") (d1 : o1.data = .seq #[.str x t] c1) (k2 : o2.cls = .type "tuple") (d2 : o2.data = .seq #[.str x u] c2)
  (hu : A.units < cLine) (h : Q (.bool false) s) : wpAny (model prog w) A (compareOp .NotEq (.ref R1) (.ref R2)) Q E s := by
  have q := RcNeAt.tuples (A := A) (s := s) (l := R1) (b := R2) (items := #[.str x t]) (items2 := #[.str x u]) (e := fun _ => true) ⟨_, (N _ m1).1, k1, _, d1⟩ ⟨_, (N _ m2).1, k2, _, d2⟩ hu (fun j h1 h2 => by
    obtain rfl : j = 0 := by
      have : j < 1 := h1
      omega
    have q := EqAt.str_str (A := A.in1) (s := s) x t x u
    rwa [beq_self_eq_true] at q)
  exact q prog w E Q h
theorem eq_four {R1 R2 : Addr} {a b d f : Int} {t1 t2 t3 t4 u1 u2 u3 u4 : Tok} {c1 c2 : Nat} (N : News h₀ L s.heap news) (m1 : (R1, W.listOf #[.int a t1, .int b t2, .int d t3, .int f t4] c1) ∈ news) (m2 : (R2, W.listOf #[.int a u1, .int b u2, .int d u3, .int f u4] c2) ∈ news)
  (hu : A.units < cLine) (h : Q (.bool true) s) : wpAny (model prog w) A (compareOp .Eq (.ref R1) (.ref R2)) Q E s := by
  have q := RcAt.lists (A := A) (s := s) (l := R1) (b := R2) (e := fun _ => true) ⟨_, (N _ m1).1, rfl, _, rfl⟩ ⟨_, (N _ m2).1, rfl, _, rfl⟩ rfl hu four_at
  exact q prog w E Q h
end
end Mine
end
section
open PySem PySem.W PyProof.Rows PySem.Calls LCg
set_option maxRecDepth 100000
set_option pp.maxSteps 3000
set_option maxHeartbeats 8000000
set_option rowWalk.seconds 0
namespace Mine
local macro_rules | `(tactic| k_room) => `(tactic| ((try simp only [depth_under_make, depth_under_kw, depth_in1, depth_deeper, depth_caller]); first | decide | omega | (simp only [recursionLimit] at *; omega)))
local macro_rules | `(tactic| walk_at "my stop") => `(tactic| ((fail_if_success (with_reducible show wpAny _ _ (pyIter _) (fun it s₂ => LoopAtV _ _ _ _ _ _ _ _ _ it s₂) _ _)); (fail_if_success (with_reducible show wpAny _ _ (call (Value.ref _) _ _) _ _ _)); (fail_if_success (with_reducible show wpAny _ _ (eval (Expr.ListComp _ _ _ _) _) _ _ _)); (fail_if_success (with_reducible show wpAny _ _ (binaryOp Operator.Add (Value.ref _) (Value.ref _)) _ _ _)); (fail_if_success (with_reducible show wpAny _ _ (compareOp CmpOp.NotEq (Value.ref _) (Value.ref _)) _ _ _)); (fail_if_success (with_reducible show wpAny _ _ (compareOp CmpOp.Eq (Value.ref _) (Value.ref _)) _ _ _)); (fail_if_success (with_reducible show wpAny _ _ (subscriptTail _ (Expr.Constant _ _ _) (Value.ref _) (Value.int _ _)) _ _ _)); (fail_if_success (with_reducible show wpAny _ _ (call (Value.type "list") _ _) _ _ _)); (fail_if_success (with_reducible show wpAny _ _ (subscriptTail _ (Expr.Slice none none (some _) _) (Value.ref _) _) _ _ _)); (fail_if_success (with_reducible show wpAny _ _ (pyIter _) (fun it s₂ => codeC _ _ _ _ _) _ _)); skip))
local macro_rules | `(tactic| k_steps) => `(tactic| repeat' (first | (k_unfold; (try dsimp only)) | (k_end; wrow_close) | (walk_at "my stop"; walk1) | (walk_at "my stop"; dsimp only; walk1) | (leave1; walk_say "STEP leave1"; try dsimp only) | fail "no step"))
local macro_rules | `(tactic| walk_at "mem tail") => `(tactic| (intro p hp; repeat (first | exact hp | refine List.Mem.tail _ ?_)))
local macro_rules | `(tactic| walk_at "mem all") => `(tactic| repeat' (first | exact List.forall_mem_nil _ | (refine List.forall_mem_cons.mpr ⟨?_, ?_⟩) | k_mem | walk_at "mem tail"))
local macro_rules | `(tactic| walk_at "off all") => `(tactic| repeat' (first | exact List.forall_mem_nil _ | (refine List.forall_mem_cons.mpr ⟨?_, ?_⟩) | k_ne))
local macro_rules | `(tactic| k_all) => `(tactic| (repeat (refine List.forall_mem_cons.mpr ⟨by k_ne, ?_⟩)); first | assumption | exact List.forall_mem_nil _)
local macro_rules | `(tactic| walk_at "units") => `(tactic| ((try simp only [units_deeper, units_in1, units_caller, cLine_is]); first | decide | (simp only [cLine_is] at *; omega)))
theorem below_at {A : Around} {h₀ h : Heap} {L : Addr} {m : Str → Option Value} {o : List Env} (_ : Fr h₀ L h m) (B : Below A h₀ o h₀) : Below A h₀ o h₀ := B
local macro_rules | `(tactic| k_ne) => `(tactic| first | assumption | (refine Ne.symm ?_; assumption) | (refine neN ?_; (try dsimp only); omega))
local macro_rules | `(tactic| walk_at "getItem ref int") => `(tactic| ((with_reducible rename News _ _ _ _ => nX); (with_reducible refine wpAny_getItem_list (News.isList nX (by k_mem)) (by omega) (by omega) (by rfl) ?_)))
local macro_rules | `(tactic| walk_at "subscriptTail Name Name ref int") => `(tactic| ((with_reducible rename News _ _ _ _ => nX); refine PyProof.Rows.item_list (News.isList nX (by k_mem)) (by omega) (by omega) (by rfl) ?_ (by with_unfolding_all rfl) (by intro _; with_unfolding_all rfl)))
local macro_rules | `(tactic| walk_at "setItem ref int") => `(tactic| ((refine' ki_set ?F ?N ?a ?b ?e ?U ?_; (case F => k_asm); (case N => k_asm); (case U => k_upd); (case a => omega); (case b => omega); (case e => rfl)); (intro h' F' N'; (try dsimp only [List.nil_append, List.cons_append] at N'))))
/-- a page in the ledger -/
def PageAt (nw : List (Addr × Obj)) (v : Value) (x : PySem.Str) (od : Obj) : Prop :=
  ∃ l op tx ld c, v = .ref l ∧ (l, op) ∈ nw ∧ op.cls = .type "tuple" ∧ op.data = .seq #[.str x tx, .ref ld] c ∧ (ld, od) ∈ nw ∧ TextOk x ∧ DueIs x od
def PageIs (nw : List (Addr × Obj)) (v : Value) : Prop := ∃ x od, PageAt nw v x od
theorem PageAt.mono {nw nw' : List (Addr × Obj)} {v : Value} {x : PySem.Str} {od : Obj} (h : PageAt nw v x od) (hs : ∀ p ∈ nw, p ∈ nw') : PageAt nw' v x od := by
  obtain ⟨l, op, tx, ld, c, a, b, d, e, f, g⟩ := h
  exact ⟨l, op, tx, ld, c, a, hs _ b, d, e, hs _ f, g⟩
theorem off1_mem {D : Addr} : ∀ {l : List (Addr × Obj)}, Off1 D l → ∀ p ∈ l, p.1 ≠ D
  | [], _, _, h => nomatch h
  | _ :: _, x, p, h => by
    rcases List.mem_cons.mp h with rfl | h
    · exact x.1
    · exact off1_mem x.2 p h
theorem start_list {h₀ h : Heap} {L l : Addr} {t : Tok} {ws : List Value} {scr : List Int} {c : Nat} {rest : List (Addr × Obj)} (N : News h₀ L h ((l, W.listOf (.int 0 t :: ws).toArray c) :: rest)) (hI : IntsAre ws (List.take 30 scr)) :
    ∃ (sv : Array Value) (sl : List Int), News h₀ L h [(l, W.listOf sv c)] ∧ IntsAre sv.toList sl ∧ 1 ≤ sv.size ∧ sv.size ≤ 31 ∧ ∀ z, sl[0]? = some z → z = 0 := by
  refine ⟨_, 0 :: List.take 30 scr, news_sub N (List.forall_mem_cons.mpr ⟨.head _, List.forall_mem_nil _⟩), .cons _ _ hI, ?_, ?_, fun z hz => (Option.some.inj hz).symm⟩
  · simp only [List.size_toArray, List.length_cons]
    omega
  · have h1 := hI.length
    have h2 := List.length_take_le 30 scr
    simp only [List.size_toArray, List.length_cons]
    omega
theorem ints_get {vs : List Value} {ns : List Int} (h : IntsAre vs ns) : ∀ {i : Nat} {v : Value}, vs[i]? = some v → ∃ n t, v = .int n t ∧ ns[i]? = some n := by
  induction h with
  | nil => intro i v h; simp at h
  | cons n t _ ih =>
    intro i v hv
    cases i with
    | zero => exact ⟨n, t, (Option.some.inj hv).symm, rfl⟩
    | succ i => exact ih hv
theorem pick_mem {items : Array Value} {lo hi st : Option Int} {v : Value} (h : v ∈ (slicePick items lo hi st).toList) : v ∈ items.toList := by
  unfold slicePick at h
  have h' := h
  simp only [List.mem_filterMap] at h'
  obtain ⟨i, _, e⟩ := h'
  exact Array.mem_toList_iff.mpr (Array.mem_of_getElem? e)
/-- a column's sum, and a written over place, after so many turns -/
def adN (i j : Nat) (s a : Int) : Int := cond (Nat.blt j i) (s + a) s
def ngN (i j : Nat) (a : Int) : Int := cond (Nat.blt j i) (-1 - a) a
/-- the ledger within the inner loop -/
def JIn (R : List (Addr × Obj)) (lT ld I lS lQ : Addr) (oI oD : Obj) (a b d f e1 e2 e3 e4 : Int) (i : Nat) (m : Str → Option Value) (nw : List (Addr × Obj)) : Prop :=
  ∃ (t1 t2 t3 t4 u1 u2 u3 u4 v1 v2 v3 v4 : Tok) (cT cS cQ2 : Nat), nw = (lT, W.listOf #[.int (ngN i 0 a) t1, .int (ngN i 1 b) t2, .int (ngN i 2 d) t3, .int (ngN i 3 f) t4] cT) :: (ld, oD) :: (I, oI) ::
            (lS, W.listOf #[.int (adN i 0 e1 a) u1, .int (adN i 1 e2 b) u2, .int (adN i 2 e3 d) u3, .int (adN i 3 e4 f) u4] cS) :: (lQ, W.listOf #[.int (adN i 0 e1 a) v1, .int (adN i 1 e2 b) v2, .int (adN i 2 e3 d) v3, .int (adN i 3 e4 f) v4] cQ2) :: R ∧
            m ("told" : Str) = some (.ref lT) ∧ m ("due" : Str) = some (.ref ld) ∧ m ("sheet" : Str) = some (.ref lS) ∧ m ("sums" : Str) = some (.ref lQ)
def AtY (h₀ : Heap) (L : Addr) (s : Shared) (P : (Str → Option Value) → List (Addr × Obj) → Prop) (f : Flow) (s' : Shared) : Prop :=
  f = .next ∧ ∃ h' tk m' nw, s' = { s with heap := h', toks := tk } ∧ Fr h₀ L h' m' ∧ News h₀ L h' nw ∧ P m' nw
theorem cutY {M : Model} {A : Around} {t : Sem Flow} {Q : Flow → Shared → Prop} {E : Value → Shared → Prop} {s : Shared} (h₀ : Heap) (L : Addr) (P : (Str → Option Value) → List (Addr × Obj) → Prop)
    (h : ∀ E', wpAny M A t (AtY h₀ L s P) E' s) (k : ∀ h' tk m' nw, Fr h₀ L h' m' → News h₀ L h' nw → P m' nw → Q .next { s with heap := h', toks := tk }) : wpAny M A t Q E s :=
  wpAny_mono (h _) (fun f s' q => by obtain ⟨rfl, h', tk, m', nw, rfl, F, N, x⟩ := q; exact k h' tk m' nw F N x) fun _ _ e => e
theorem law_holds : PySem.Challenge.rw_km0086_08.Holds := Mine.hd (by
  w_top off
  k_fill
  intro w s₀ s₁ mg mb G Y fa o pm cd doc dV kV ho hd hcd hD hmg hg args vals as hpre hlay hrd hwl hlo
  have KX := kIn_of Y
  have X := (Ground.X G).1
  have V := (Ground.X G).2
  have GL := glob_more (Ground.glob G (by first | k_qdec | decide +kernel) (by first | k_qdec | decide +kernel)) V
  refine Ground.open G ?_
  intro T B D TE TW
  try (refine guard_noD D (by decide +kernel) ?_; clear D)
  obtain ⟨_, _, M⟩ := bmod_of_top T
  have TA := at_of_top T
  try (obtain ⟨_, _, he, B0⟩ := based_of_top T rfl hmg ho hd; have he' : cd = _ := he; subst he'; clear he)
  clear hmg
  wrow_args hpre hlay hrd hwl hlo
  refine enter_callC ?_
  w_top on
  refine codeC_mono ?_ (fun _ _ g => GoodW.toG g)
  have K0 := below_caller (Top.heap T)
  have he := Dflts.none hD rfl
  subst he
  refine call_fullC (by decide) ho hd (Top.nolimit T) hcd (BindsTo.of_eq rfl) (locs rfl) fun h₁ F => ?_
  w_binds F
  have N0 := (News.nil : News _ _ _ []).at F
  clear hd TA
  k_drop
  (all_goals try k_fold)
  dsimp only
  (with_reducible rename Fr _ _ _ _ => F1)
  (with_reducible rename News _ _ _ _ => N1)
  refine wpC_execs_cons (wpC_any ?_)
  refine Assign_listJ F1 rfl (by with_unfolding_all rfl) (by with_unfolding_all rfl) (by decide) (by with_unfolding_all rfl) (by decide) (by with_unfolding_all rfl) (by rfl) (by with_unfolding_all rfl) ?_ (by intro _; with_unfolding_all rfl)
  k_steps
  rename IntsAre _ (List.take 30 _) => hH
  (with_reducible rename Fr _ _ _ _ => F2)
  (with_reducible rename News _ _ _ _ => N2)
  refine add_lists (vs := [_]) F2 N2 ⟨_, (N2 _ (.tail _ (.head _))).1, rfl, _, rfl⟩ ⟨_, (N2 _ (.head _)).1, rfl, _, rfl⟩ (fun h3 F3 N3 => ?_) ?_
  rotate_left
  · have h1 := hH.length
    have h2 := List.length_take_le 30 ‹List Int›
    simp only [List.length_cons, List.length_nil, sizeLine]
    omega
  dsimp only
  have hA0 := hH.length
  rename List Int => scr
  refine nm1 N3 ?_
  intro lx e1
  rw [← e1] at N3 ⊢
  clear e1
  obtain ⟨sv, sl, N4, hI0, hsz1, hsz, hz0⟩ := start_list N3 hH
  clear hH N3 N2 F2
  refine ⟨fun i ys nw => (lx, W.listOf sv 0) ∈ nw ∧ (∀ v ∈ ys, PageIs nw v) ∧ (∀ v, ys[0]? = some v → ∃ x od, PageAt nw v x od ∧ od.cls = .type "list") ∧ ys.length = i, lx, sv, 0, [(lx, W.listOf sv 0)], rfl, rfl, F3, N4, ?_, ?_, ?_, ?_, ?_⟩
  · exact Nat.le_trans hsz (by decide)
  · exact ⟨.head _, (fun v hv => absurd hv List.not_mem_nil), (fun v hv => by simp at hv), rfl⟩
  · exact fun i ys nw q => q.1
  · rintro i v ys nw I oI C oC D m₂ h tk E' hv ⟨hl, hp, hf, hlen⟩ hC hm2 FC NC off dist
    obtain ⟨n, tn, rfl, hn⟩ := ints_get hI0 (by simpa using hv)
    have hlt2 := news_lt NC
    simp only [AllLt] at hlt2
    clear F3 N4
    k_steps
    (with_reducible rename Fr _ _ _ _ => FB)
    (with_reducible rename News _ _ _ _ => NB)
    rename Below _ _ _ _ => B7
    rename Top _ _ _ _ _ _ => T7
    replace B7 := below_at FB B7
    refine page B7 FB KX NB T7 rfl rfl rfl (by k_room) rfl (by walk_at "units") (by split <;> omega) ?_
    intro h' tk' l op x tx ld od c hoc hod hto hdu h0l FE NE hlt1 hlt3
    k_steps
    (with_reducible rename Fr _ _ _ _ => FT)
    (with_reducible rename News _ _ _ _ => NT)
    have hpa : PageAt ((l, op) :: (ld, od) :: nw) (.ref l) x od := ⟨l, op, tx, ld, c, rfl, .head _, hoc, hod, .tail _ (.head _), hto, hdu⟩
    have q1 : @LT.lt Nat _ I ld := hlt1 _ (.head _)
    have q2 : @LT.lt Nat _ C ld := hlt1 _ (.tail _ (.head _))
    have q3 : @LT.lt Nat _ D ld := hlt1 _ (.tail _ (.tail _ (.head _)))
    have q4 : @LT.lt Nat _ ld l := hlt3
    refine CompEnd.intro FT NT ((l, op) :: (ld, od) :: nw) (by walk_at "mem all") ?_ trivial ⟨.tail _ (.tail _ hl), ?_, ?_, ?_⟩
    · exact Off3.of (List.forall_mem_cons.mpr ⟨⟨by k_ne, by k_ne, by k_ne⟩, List.forall_mem_cons.mpr ⟨⟨by k_ne, by k_ne, by k_ne⟩, Off3.mem off⟩⟩)
    · intro v hv
      rcases List.mem_append.mp hv with hv | hv
      · obtain ⟨x', od', q⟩ := hp v hv
        exact ⟨x', od', q.mono fun p hp => .tail _ (.tail _ hp)⟩
      · obtain rfl : v = .ref l := by simpa using hv
        exact ⟨x, od, hpa⟩
    · intro v hv
      by_cases hi : i = 0
      · subst hi
        have hys : ys = [] := List.length_eq_zero_iff.mp hlen
        subst hys
        obtain rfl : Value.ref l = v := by simpa using hv
        have hn0 := hz0 _ hn
        exact ⟨x, od, hpa, h0l (by rw [hn0]; rfl)⟩
      · rw [List.getElem?_append_left (by omega)] at hv
        obtain ⟨x', od', q, r⟩ := hf v hv
        exact ⟨x', od', q.mono fun p hp => .tail _ (.tail _ hp), r⟩
    · rw [List.length_append, hlen]
      rfl
  · rintro D h tk ys nw FD ND oD ⟨hl, hp, hf, hlen⟩
    obtain ⟨v0, yr, rfl⟩ : ∃ v0 yr, ys = v0 :: yr := by
      cases ys with
      | nil => simp only [List.length_nil] at hlen; omega
      | cons a b => exact ⟨_, _, rfl⟩
    obtain ⟨x0, od0, ⟨l0, op0, tx0, ld0, c0, rfl, hm1, hoc, hod, hm2, hto, hdu⟩, hls⟩ := hf v0 rfl
    have hne : ∀ p ∈ nw, p.1 ≠ D := off1_mem oD
    have hltD := news_lt ND
    clear F3 N4
    dsimp only
    refine wpC_execs_cons (wpC_Assign_Name (wpC_Call_Name ?_))
    k_steps
    (with_reducible rename Fr _ _ _ _ => F8)
    (with_reducible rename News _ _ _ _ => N8)
    have h29 := KX 29 _ (by k_is)
    refine wpC_callWith_fun (hdat := (show Obj.data _ = .func _ from rfl)) (wpAny_mono (Q := fun vs s₂ => (∀ b o, s₁.heap.get? b = some o → s₂.heap.get? b = some o) ∧ wpC _ _ (call (.ref 29) vs) _ _ s₂) ?_ (fun vs s₁ q => ⟨q.1 _ _ h29, q.2⟩) fun _ _ q => q)
    k_steps
    (with_reducible rename Fr _ _ _ _ => F9)
    (with_reducible rename News _ _ _ _ => N9)
    refine PyProof.Rows.item_list (x := .ref l0) ⟨_, (N9 _ (.head _)).1, rfl, _, rfl⟩ (by omega) (by omega) (by simp) ?_ (by with_unfolding_all rfl) (by intro _; with_unfolding_all rfl)
    k_steps
    refine item_tupleT (l := [.str x0 tx0, .ref ld0]) ⟨_, (N9 _ (.tail _ hm1)).1, hoc, _, hod⟩ (by omega) (by omega) (by rfl) (by rfl) ?_
    k_steps
    dsimp only
    (with_reducible rename Fr _ _ _ _ => FB)
    (with_reducible rename News _ _ _ _ => NB)
    rename Below _ _ _ _ => B7
    rename Top _ _ _ _ _ _ => T7
    replace B7 := below_at FB B7
    obtain ⟨a0, b0, d0, f0, y1, y2, y3, y4, yc, hpp, rfl⟩ : ∃ (a b d f : Int) (t1 t2 t3 t4 : Tok) (c : Nat), parseP x0 = .ok [a, b, d, f] ∧ od0 = W.listOf #[.int a t1, .int b t2, .int d t3, .int f t4] c := by
      rcases hdu with q | ⟨_, _, _, _, q⟩
      · exact q
      · rw [q] at hls
        have hls' : Value.type "tuple" = Value.type "list" := hls
        exact absurd hls' (by decide)
    refine parse B7 FB KX NB T7 rfl rfl rfl (by k_room) rfl (by walk_at "units") hto.1 hto.2 ?_ (fun _ _ _ _ _ _ _ q => by rw [hpp] at q; cases q)
    intro h' tk' lS a1 b1 d1 f1 z1 z2 z3 z4 zc hp1 FE NE hlt1
    obtain ⟨rfl, rfl, rfl, rfl⟩ : a0 = a1 ∧ b0 = b1 ∧ d0 = d1 ∧ f0 = f1 := by
      rw [hpp] at hp1
      injection hp1 with hp1
      injection hp1 with e1 hp1
      injection hp1 with e2 hp1
      injection hp1 with e3 hp1
      injection hp1 with e4 hp1
      exact ⟨e1, e2, e3, e4⟩
    clear hpp hp1 hdu hls
    k_steps
    dsimp only
    refine wpC_execs_cons (wpC_any ?_)
    k_steps
    (with_reducible rename News _ _ _ _ => N9)
    refine PyProof.Rows.item_list (x := .ref l0) ⟨_, (N9 _ (.tail _ (.head _))).1, rfl, _, rfl⟩ (by omega) (by omega) (by simp) ?_ (by with_unfolding_all rfl) (by intro _; with_unfolding_all rfl)
    k_steps
    refine item_tupleT (l := [.str x0 tx0, .ref ld0]) ⟨_, (N9 _ (.tail _ (.tail _ hm1))).1, hoc, _, hod⟩ (by omega) (by omega) (by rfl) (by rfl) ?_
    k_steps
    dsimp only
    (with_reducible rename Fr _ _ _ _ => F9)
    refine PySem.W.kup_listOf F9 N9 (.tail _ (.tail _ hm2)) rfl ?_ (Nat.le_of_ble_eq_true rfl)
    intro lQ cQ h10 F10 N10 hlt10
    k_steps
    dsimp only
    refine wpC_execs_cons (wpC_For ?_)
    k_steps
    dsimp only
    (with_reducible rename Fr _ _ _ _ => F11)
    (with_reducible rename News _ _ _ _ => N11)
    have hz31 : (Value.ref l0 :: yr).length ≤ 31 := by omega
    refine slice_list3 (s := ⟨_, _, _, _, _⟩) (items := (Value.ref l0 :: yr).toArray) F11 N11 ⟨_, (N11 _ (.tail _ (.tail _ (.head _)))).1, rfl, _, rfl⟩ .none .none (.int (-1) _) (by decide) (fun h12 F12 N12 => ?_) (by with_unfolding_all rfl) (by intro _; with_unfolding_all rfl) ?hsz3
    case hsz3 =>
      rw [List.size_toArray]
      exact Nat.le_trans hz31 (by decide)
    dsimp only
    have hpm : ∀ v ∈ (Value.ref l0 :: yr) ++ (slicePick (Value.ref l0 :: yr).toArray none none (some (-1))).toList, PageIs nw v := fun v hv => by
      rcases List.mem_append.mp hv with hv | hv
      · exact hp v hv
      · exact hp v (by simpa using pick_mem hv)
    have hps := slicePick_size_le (Value.ref l0 :: yr).toArray none none (some (-1))
    generalize slicePick (Value.ref l0 :: yr).toArray none none (some (-1)) = rv at *
    obtain ⟨rv⟩ := rv
    k_steps
    refine add_lists (vs := Value.ref l0 :: yr) (ws := rv) F12 N12 ⟨_, (N12 _ (.tail _ (.tail _ (.tail _ (.head _))))).1, rfl, _, rfl⟩ ⟨_, (N12 _ (.head _)).1, rfl, _, rfl⟩ (fun h13 F13 N13 => ?_) ?_
    rotate_left
    · rw [List.size_toArray, List.size_toArray] at hps
      simp only [sizeLine]
      omega
    dsimp only
    k_steps
    have hltQ : @LT.lt Nat _ lQ h12.objs.size := Heap.lt_size (N12 _ (.tail _ (.head _))).1
    refine nm1 N13 ?_
    intro lA e1
    have e2 : h12.objs.size = lA := e1.symm
    rw [e2] at hltQ N13 ⊢
    clear e1 e2
    have hSQ : @LT.lt Nat _ lS lQ := hlt10 _ (.head _)
    have N14 := news_sub (nw' := (lS, W.listOf #[.int a0 z1, .int b0 z2, .int d0 z3, .int f0 z4] zc) :: (lQ, W.listOf #[.int a0 y1, .int b0 y2, .int d0 y3, .int f0 y4] cQ) :: (lA, W.listOf (Value.ref l0 :: yr ++ rv).toArray 0) :: nw) N13 (by walk_at "mem all")
    have hSr : ∀ p ∈ (lA, W.listOf (Value.ref l0 :: yr ++ rv).toArray 0) :: nw, p.1 ≠ lS := by
      intro p hp
      rcases List.mem_cons.mp hp with rfl | hp
      · exact Nat.ne_of_gt (Nat.lt_trans hSQ hltQ)
      · exact Nat.ne_of_lt (hlt1 p (.tail _ hp))
    have hQr : ∀ p ∈ (lA, W.listOf (Value.ref l0 :: yr ++ rv).toArray 0) :: nw, p.1 ≠ lQ := by
      intro p hp
      rcases List.mem_cons.mp hp with rfl | hp
      · exact Nat.ne_of_gt hltQ
      · exact Nat.ne_of_lt (hlt10 p (.tail _ (.tail _ hp)))
    have hpm2 : ∀ v ∈ (Value.ref l0 :: yr ++ rv).toArray.toList, PageIs ((lA, W.listOf (Value.ref l0 :: yr ++ rv).toArray 0) :: nw) v := fun v hv => by
      obtain ⟨x', od', q⟩ := hpm v (by simpa using hv)
      exact ⟨x', od', q.mono fun p hp => .tail _ hp⟩
    have hRA : (lA, W.listOf (Value.ref l0 :: yr ++ rv).toArray 0) ∈ (lA, W.listOf (Value.ref l0 :: yr ++ rv).toArray 0) :: nw := .head _
    clear N13 N12 N11 F12 F11 hpm hlt10 hlt1 hltD hm1 hm2 hoc hod hto oD hne
    generalize (Value.ref l0 :: yr ++ rv).toArray = items at *
    generalize (lA, W.listOf items 0) :: nw = R at *
    refine nmF F13 ?_
    intro mF em
    have hmS : mF ("sheet" : Str) = some (.ref lS) := by subst em; rfl
    have hmQ : mF ("sums" : Str) = some (.ref lQ) := by subst em; rfl
    rw [← em] at F13
    clear em
    refine listC (l := lA) (items := items) (c := 0) (fun i m nw' => ∃ (e1 e2 e3 e4 : Int) (u1 u2 u3 u4 v1 v2 v3 v4 : Tok) (cS cT : Nat), nw' = (lS, W.listOf #[.int e1 u1, .int e2 u2, .int e3 u3, .int e4 u4] cS) :: (lQ, W.listOf #[.int e1 v1, .int e2 v2, .int e3 v3, .int e4 v4] cT) :: R ∧ m ("sheet" : Str) = some (.ref lS) ∧ m ("sums" : Str) = some (.ref lQ)) rfl ?_ F13 N14 ?_ ?_ ?_ ?_
    · rintro i m nw' ⟨_, _, _, _, _, _, _, _, _, _, _, _, _, _, rfl, _⟩
      exact .tail _ (.tail _ hRA)
    · exact ⟨_, _, _, _, _, _, _, _, _, _, _, _, _, _, rfl, hmS, hmQ⟩
    · passes_own
    · rintro i v m₁ nw' h tk I oI hi hv ⟨e1, e2, e3, e4, u1, u2, u3, u4, v1, v2, v3, v4, cS, cQ2, rfl, k1, k2⟩ hoff FT NT
      obtain ⟨x, od, l, op, tx, ld, c, rfl, hm1, hoc, hod, hm2, hto, hdu⟩ := hpm2 v (Array.mem_toList_iff.mpr (Array.mem_of_getElem? hv))
      rw [map_at k1] at FT
      rw [map_at k2] at FT
      dsimp only at FT
      have hSI : @Ne Nat lS I := hoff _ (.head _)
      have hQI : @Ne Nat lQ I := hoff _ (.tail _ (.head _))
      have hRI : ∀ p ∈ R, p.1 ≠ I := fun p hp => hoff p (.tail _ (.tail _ hp))
      have itp : IsTup h l #[.str x tx, .ref ld] := ⟨op, (NT _ (.tail _ (.tail _ (.tail _ hm1)))).1, hoc, c, hod⟩
      have hlt' := news_lt NT
      simp only [AllLt] at hlt'
      clear F13 N14
      k_steps
      dsimp only
      refine wpC_execs_cons (wpC_Assign_Name (wpC_Call_Name ?_))
      k_steps
      (with_reducible rename Fr _ _ _ _ => F8)
      (with_reducible rename News _ _ _ _ => N8)
      have h57 := KX 57 _ (by k_is)
      refine wpC_callWith_fun (hdat := (show Obj.data _ = .func _ from rfl)) (wpAny_mono (Q := fun vs s₂ => (∀ b o, s₁.heap.get? b = some o → s₂.heap.get? b = some o) ∧ wpC _ _ (call (.ref 57) vs) _ _ s₂) ?_ (fun vs s₁ q => ⟨q.1 _ _ h57, q.2⟩) fun _ _ q => q)
      k_steps
      dsimp only
      (with_reducible rename Fr _ _ _ _ => FB)
      (with_reducible rename News _ _ _ _ => NB)
      refine told B7 FB KX KX T7 NB T7 rfl rfl (by k_room) rfl (by walk_at "units") hto.1 hto.2 ?_ ?_
      · intro h9 tk9 lT a b d f t1 t2 t3 t4 cT hpk F9 N9 hltT
        obtain ⟨j1, j2, j3, j4, jc, rfl⟩ : ∃ (t1 t2 t3 t4 : Tok) (c : Nat), od = W.listOf #[.int a t1, .int b t2, .int d t3, .int f t4] c := by
          rcases hdu with ⟨a', b', d', f', t1', t2', t3', t4', c', q, e⟩ | ⟨_, _, _, q, _⟩
          · rw [hpk] at q
            injection q with q
            injection q with e1 q
            injection q with e2 q
            injection q with e3 q
            injection q with e4 q
            subst e1 e2 e3 e4
            exact ⟨_, _, _, _, _, e⟩
          · rw [hpk] at q
            cases q
        clear hdu hpk
        k_steps
        dsimp only
        refine wpC_execs_cons (wpC_If ?_)
        k_steps
        (with_reducible rename News _ _ _ _ => N9)
        refine ne_four N9 (.head _) (.tail _ (.tail _ (.tail _ (.tail _ hm2)))) (by walk_at "units") ?_
        k_steps
        refine wpC_execs_nil ?_
        dsimp only
        (with_reducible rename News _ _ _ _ => N9a)
        have N10 := news_sub (nw' := (lT, W.listOf #[.int a t1, .int b t2, .int d t3, .int f t4] cT) :: (ld, W.listOf #[.int a j1, .int b j2, .int d j3, .int f j4] jc) :: (I, oI) :: (lS, W.listOf #[.int e1 u1, .int e2 u2, .int e3 u3, .int e4 u4] cS) :: (lQ, W.listOf #[.int e1 v1, .int e2 v2, .int e3 v3, .int e4 v4] cQ2) :: R) N9a (List.forall_mem_cons.mpr ⟨.head _, List.forall_mem_cons.mpr ⟨.tail _ (.tail _ (.tail _ (.tail _ hm2))), fun p hp => .tail _ hp⟩⟩)
        clear N9a
        refine wpC_execs_cons (wpC_any ?_)
        k_steps
        rename IsRange _ _ _ _ _ _ _ _ => R1
        (with_reducible rename Fr _ _ _ _ => F11)
        (with_reducible rename News _ _ _ _ => N11)
        have g1 : @LT.lt Nat _ I lT := hltT _ (.head _)
        have g2 : @LT.lt Nat _ lS lT := hltT _ (.tail _ (.head _))
        have g3 : @LT.lt Nat _ lQ lT := hltT _ (.tail _ (.tail _ (.head _)))
        have gR : ∀ p ∈ R, p.1 ≠ lT := fun p hp => Nat.ne_of_lt (hltT p (.tail _ (.tail _ (.tail _ hp))))
        have g8 : @Ne Nat I lT := Nat.ne_of_lt g1
        have g9 : @Ne Nat lS lT := Nat.ne_of_lt g2
        have g10 : @Ne Nat lQ lT := Nat.ne_of_lt g3
        have g11 : @Ne Nat lS lQ := Nat.ne_of_lt hSQ
        have g4 : @Ne Nat ld lT := gR _ hm2
        have g5 : @Ne Nat ld lS := hSr _ hm2
        have g6 : @Ne Nat ld lQ := hQr _ hm2
        have g7 : @Ne Nat ld I := hRI _ hm2
        refine nmF F11 ?_
        intro mK emK
        have k3 : mK ("told" : Str) = some (.ref lT) := by subst emK; rfl
        have k4 : mK ("due" : Str) = some (.ref ld) := by subst emK; rfl
        have k5 : mK ("sheet" : Str) = some (.ref lS) := by subst emK; rfl
        have k6 : mK ("sums" : Str) = some (.ref lQ) := by subst emK; rfl
        rw [← emK] at F11
        clear emK itp h57 hltT
        refine j_range 4 (JIn R lT ld I lS lQ oI (W.listOf #[.int a j1, .int b j2, .int d j3, .int f j4] jc) a b d f e1 e2 e3 e4) rfl R1 (by decide +kernel) (by decide +kernel) F11 N11 ?_ ?_ ?_
        · exact ⟨_, _, _, _, _, _, _, _, _, _, _, _, _, _, _, rfl, k3, k4, k5, k6⟩
        · rintro i2 t5 m2 nw2 h14 tk14 I2 oI2 hi2 ⟨t1, t2, t3, t4, u1, u2, u3, u4, v1, v2, v3, v4, cT, cS, cQ2, rfl, k3, k4, k5, k6⟩ hoff2 F15 N15
          obtain ⟨zi, hzi⟩ : ∃ zi : Int, zi = 0 + (i2 : Int) * 1 := ⟨_, rfl⟩
          rw [← hzi] at F15
          rw [map_at k3] at F15
          rw [map_at k4] at F15
          rw [map_at k5] at F15
          rw [map_at k6] at F15
          dsimp only at F15
          have w1 : @Ne Nat lT I2 := hoff2 _ (.head _)
          have w2 : @Ne Nat ld I2 := hoff2 _ (.tail _ (.head _))
          have w3 : @Ne Nat I I2 := hoff2 _ (.tail _ (.tail _ (.head _)))
          have w4 : @Ne Nat lS I2 := hoff2 _ (.tail _ (.tail _ (.tail _ (.head _))))
          have w5 : @Ne Nat lQ I2 := hoff2 _ (.tail _ (.tail _ (.tail _ (.tail _ (.head _)))))
          have w6 : ∀ p ∈ R, p.1 ≠ I2 := fun p hp => hoff2 p (.tail _ (.tail _ (.tail _ (.tail _ (.tail _ hp)))))
          have hlt2 := news_lt N15
          simp only [AllLt] at hlt2
          clear F11 N11 R1 k1 k2
          have hi' : i2 = 0 ∨ i2 = 1 ∨ i2 = 2 ∨ i2 = 3 := by omega
          refine cutY s₁.heap s₁.heap.objs.size (fun m' nw => ∃ nx, nw = (I2, oI2) :: nx ∧ JIn R lT ld I lS lQ oI (W.listOf #[.int a j1, .int b j2, .int d j3, .int f j4] jc) a b d f e1 e2 e3 e4 (i2 + 1) m' nx) (fun E' => ?_) ?_
          · clear hpm2 hv hRA hi hoff hm1 hoc hod hto hoff2 hlt'
            rcases hi' with rfl | rfl | rfl | rfl
            · obtain rfl : zi = 0 := hzi
              simp only [adN, ngN, show Nat.blt 0 0 = false from rfl, show Nat.blt 1 0 = false from rfl, show Nat.blt 2 0 = false from rfl, show Nat.blt 3 0 = false from rfl, cond_false] at N15
              k_steps
              (with_reducible rename Fr _ _ _ _ => FE)
              (with_reducible rename News _ _ _ _ => NE)
              exact ⟨rfl, _, _, _, _, rfl, FE, NE, _, rfl, _, _, _, _, _, _, _, _, _, _, _, _, _, _, _, rfl, rfl, rfl, rfl, rfl⟩
            · obtain rfl : zi = 1 := hzi
              simp only [adN, ngN, show Nat.blt 0 1 = true from rfl, show Nat.blt 1 1 = false from rfl, show Nat.blt 2 1 = false from rfl, show Nat.blt 3 1 = false from rfl, cond_true, cond_false] at N15
              k_steps
              (with_reducible rename Fr _ _ _ _ => FE)
              (with_reducible rename News _ _ _ _ => NE)
              exact ⟨rfl, _, _, _, _, rfl, FE, NE, _, rfl, _, _, _, _, _, _, _, _, _, _, _, _, _, _, _, rfl, rfl, rfl, rfl, rfl⟩
            · obtain rfl : zi = 2 := hzi
              simp only [adN, ngN, show Nat.blt 0 2 = true from rfl, show Nat.blt 1 2 = true from rfl, show Nat.blt 2 2 = false from rfl, show Nat.blt 3 2 = false from rfl, cond_true, cond_false] at N15
              k_steps
              (with_reducible rename Fr _ _ _ _ => FE)
              (with_reducible rename News _ _ _ _ => NE)
              exact ⟨rfl, _, _, _, _, rfl, FE, NE, _, rfl, _, _, _, _, _, _, _, _, _, _, _, _, _, _, _, rfl, rfl, rfl, rfl, rfl⟩
            · obtain rfl : zi = 3 := hzi
              simp only [adN, ngN, show Nat.blt 0 3 = true from rfl, show Nat.blt 1 3 = true from rfl, show Nat.blt 2 3 = true from rfl, show Nat.blt 3 3 = false from rfl, cond_true, cond_false] at N15
              k_steps
              (with_reducible rename Fr _ _ _ _ => FE)
              (with_reducible rename News _ _ _ _ => NE)
              exact ⟨rfl, _, _, _, _, rfl, FE, NE, _, rfl, _, _, _, _, _, _, _, _, _, _, _, _, _, _, _, rfl, rfl, rfl, rfl, rfl⟩
          · rintro h' tk m' nw FE NE ⟨nx, rfl, hJ⟩
            dsimp only [JPost]
            refine JEnd.intro nx FE NE (.head _) (fun p hp => .tail _ hp) ?_ hJ
            obtain ⟨_, _, _, _, _, _, _, _, _, _, _, _, _, _, _, rfl, _⟩ := hJ
            exact List.forall_mem_cons.mpr ⟨w1, List.forall_mem_cons.mpr ⟨w2, List.forall_mem_cons.mpr ⟨w3, List.forall_mem_cons.mpr ⟨w4, List.forall_mem_cons.mpr ⟨w5, w6⟩⟩⟩⟩⟩
        · rintro m2 nw2 h14 tk14 ⟨t1, t2, t3, t4, u1, u2, u3, u4, v1, v2, v3, v4, cT, cS, cQ2, rfl, k3, k4, k5, k6⟩ F15 N15
          rw [map_at k3] at F15
          rw [map_at k4] at F15
          rw [map_at k5] at F15
          rw [map_at k6] at F15
          dsimp only at F15
          generalize adN 4 0 e1 a = x1 at N15
          generalize adN 4 1 e2 b = x2 at N15
          generalize adN 4 2 e3 d = x3 at N15
          generalize adN 4 3 e4 f = x4 at N15
          generalize ngN 4 0 a = n1 at N15
          generalize ngN 4 1 b = n2 at N15
          generalize ngN 4 2 d = n3 at N15
          generalize ngN 4 3 f = n4 at N15
          have hlt2 := news_lt N15
          simp only [AllLt] at hlt2
          clear F11 N11 R1 k1 k2
          k_steps
          (with_reducible rename News _ _ _ _ => N16)
          refine PyProof.Rows.item_list (x := .int a j1) ⟨_, (N16 _ (.tail _ (.head _))).1, rfl, _, rfl⟩ (by omega) (by omega) (by rfl) ?_ (by with_unfolding_all rfl) (by intro _; with_unfolding_all rfl)
          k_steps
          (with_reducible rename Fr _ _ _ _ => FE)
          (with_reducible rename News _ _ _ _ => NE)
          dsimp only [List.cons_append, List.nil_append]
          (with_reducible rename Fr _ _ _ _ => FX)
          (with_reducible rename News _ _ _ _ => NX)
          refine append_K FX NX (Upd.head (List.forall_mem_cons.mpr ⟨g4, List.forall_mem_cons.mpr ⟨g8, List.forall_mem_cons.mpr ⟨g9, List.forall_mem_cons.mpr ⟨g10, gR⟩⟩⟩⟩)) (fun h16 F16 N16 => ?_) (Nat.le_of_ble_eq_true rfl)
          k_steps
          dsimp only
          refine wpC_execs_nil ?_
          (with_reducible rename Fr _ _ _ _ => FE)
          (with_reducible rename News _ _ _ _ => NE)
          show JEnd _ _ _ _ _ _ _
          refine JEnd.intro ((lS, _) :: (lQ, _) :: R) FE NE (.tail _ (.tail _ (.head _))) (fun p hp => .tail _ (.tail _ (.tail _ hp))) (List.forall_mem_cons.mpr ⟨hSI, List.forall_mem_cons.mpr ⟨hQI, hRI⟩⟩) ⟨_, _, _, _, _, _, _, _, _, _, _, _, _, _, rfl, rfl, rfl⟩
      · intro h9 tk9 lT msg t1 oT cT hpk k3 d3 F9 N9
        obtain ⟨j1, jc, rfl⟩ : ∃ (t : Tok) (c : Nat), od = { cls := .type "tuple", data := .seq #[.str msg t] c } := by
          rcases hdu with ⟨a', b', d', f', t1', t2', t3', t4', c', q, e⟩ | ⟨_, _, _, q, e⟩
          · rw [hpk] at q
            cases q
          · rw [hpk] at q
            injection q with q
            subst q
            exact ⟨_, _, e⟩
        clear hdu hpk
        k_steps
        dsimp only
        refine wpC_execs_cons (wpC_If ?_)
        k_steps
        (with_reducible rename News _ _ _ _ => N9)
        refine ne_msg N9 (.head _) (.tail _ (.tail _ (.tail _ (.tail _ hm2)))) k3 d3 rfl rfl (by walk_at "units") ?_
        k_steps
        refine wpC_execs_nil ?_
        dsimp only
        (with_reducible rename News _ _ _ _ => N9a)
        have N10 := news_sub (nw' := (ld, ({ cls := .type "tuple", data := .seq #[.str msg j1] jc } : Obj)) :: (I, oI) :: (lS, W.listOf #[.int e1 u1, .int e2 u2, .int e3 u3, .int e4 u4] cS) :: (lQ, W.listOf #[.int e1 v1, .int e2 v2, .int e3 v3, .int e4 v4] cQ2) :: R) N9a (List.forall_mem_cons.mpr ⟨.tail _ (.tail _ (.tail _ (.tail _ hm2))), fun p hp => .tail _ hp⟩)
        clear N9a
        refine wpC_execs_cons (wpC_any ?_)
        k_steps
        (with_reducible rename Fr _ _ _ _ => FE)
        (with_reducible rename News _ _ _ _ => NE)
        dsimp only
        refine wpC_execs_nil ?_
        show JEnd _ _ _ _ _ _ _
        refine JEnd.intro ((lS, _) :: (lQ, _) :: R) FE NE (.tail _ (.head _)) (fun p hp => .tail _ (.tail _ hp)) (List.forall_mem_cons.mpr ⟨hSI, List.forall_mem_cons.mpr ⟨hQI, hRI⟩⟩) ⟨_, _, _, _, _, _, _, _, _, _, _, _, _, _, rfl, rfl, rfl⟩
    · rintro m' nw' h tk ⟨e1, e2, e3, e4, u1, u2, u3, u4, v1, v2, v3, v4, cS, cQ2, rfl, k1, k2⟩ FT NT
      rw [map_at k1] at FT
      rw [map_at k2] at FT
      dsimp only at FT
      clear F13 N14
      dsimp only
      refine wpC_execs_cons (wpC_any ?_)
      k_steps
      (with_reducible rename News _ _ _ _ => NE)
      refine eq_four NE (.head _) (.tail _ (.head _)) (by walk_at "units") ?_
      k_steps
  )
end Mine
end
theorem PySem.Challenge.cw_km0086_08_holds : PySem.Challenge.rw_km0086_08.Holds := by
  exact Mine.law_holds
