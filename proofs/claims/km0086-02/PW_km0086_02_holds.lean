import PyProof.Rows.All
import Wide.All
import OpenK.AllK
import Wide.FinOn
import PySem.Challenge.RW_km0086_02
set_option Elab.async false
section
open PySem PySem.W PyProof.Rows
set_option maxRecDepth 100000
set_option maxHeartbeats 8000000
namespace Mine
open_top hd for PySem.Challenge.rw_km0086_02
end Mine
end
section
open PySem PySem.W PyProof.Rows PySem.Calls
set_option maxRecDepth 100000
namespace Mine
section
variable {prog : Program} {w : World} {A : Around} {E : Value → Shared → Prop} {s : Shared} {env : Env} {h₀ : Heap} {x : Str} {body : List Stmt} {Q : Flow → Shared → Prop}

/-- the end of a turn: the ledger holds the iterator, and what the word speaks of -/
def JEnd (h₀ : Heap) (L : Addr) (J : (Str → Option Value) → List (Addr × Obj) → Prop) (I : Addr) (oI : Obj) (s₁ s₂ : Shared) : Prop :=
  ∃ h' tk m' news' nx, s₂ = { s₁ with heap := h', toks := tk } ∧ Fr h₀ L h' m' ∧ News h₀ L h' news' ∧ (I, oI) ∈ news' ∧ (∀ p ∈ nx, p ∈ news') ∧ (∀ p ∈ nx, p.1 ≠ I) ∧ J m' nx
def JPost (h₀ : Heap) (L : Addr) (J : (Str → Option Value) → List (Addr × Obj) → Prop) (I : Addr) (oI : Obj) (s₁ : Shared) (Q : Flow → Shared → Prop) (f : Flow) (s₂ : Shared) : Prop :=
  match f with
  | .ret v => Q (.ret v) s₂
  | .brk => Q .next s₂
  | _ => JEnd h₀ L J I oI s₁ s₂
theorem JEnd.intro {L : Addr} {J : (Str → Option Value) → List (Addr × Obj) → Prop} {m' : Str → Option Value} {I : Addr} {oI : Obj} {news' : List (Addr × Obj)} (nx : List (Addr × Obj)) {s₁ : Shared} {h' : Heap} {tk : Nat} (F : Fr h₀ L h' m') (N : News h₀ L h' news')
    (hI : (I, oI) ∈ news') (hn : ∀ p ∈ nx, p ∈ news') (ho : ∀ p ∈ nx, p.1 ≠ I) (hj : J m' nx) : JEnd h₀ L J I oI s₁ { s₁ with heap := h', toks := tk } :=
  ⟨h', tk, m', news', nx, rfl, F, N, hI, hn, ho, hj⟩

theorem j_loop {I : Addr} {fp : List Addr} {n : Nat} {P : Nat → Value → Prop} {St : Nat → Heap → Prop} {m₀ : Str → Option Value} {news : List (Addr × Obj)}
    (J : Nat → (Str → Option Value) → List (Addr × Obj) → Prop) (dep : List (Addr × Obj))
    (W : Walks prog w A I fp [I] n P St) (hI : h₀.get? I = none) (hIf : I ∈ fp) (hIo : ∀ i h, St i h → ∃ o, h.get? I = some o) (hLf : env.locals ∉ fp) (hnI : ∀ p ∈ news, p.1 ≠ I) (hst : St 0 s.heap)
    (F : Fr h₀ env.locals s.heap m₀) (N : News h₀ env.locals s.heap news) (hj : J 0 m₀ news)
    (hdep : ∀ i m nw, J i m nw → ∀ p ∈ dep, p ∈ nw) (hfp : ∀ b ∈ fp, b = I ∨ (∃ o, h₀.get? b = some o) ∨ ∃ o, (b, o) ∈ dep)
    (turn : ∀ i v m₁ nw h tk oI, i < n → P i v → J i m₁ nw → (∀ p ∈ nw, p.1 ≠ I) → Fr h₀ env.locals h (fun y => if y = x then some v else m₁ y) → News h₀ env.locals h ((I, oI) :: nw) →
      wpAny (model prog w) A (execs body env) (JPost h₀ env.locals (J (i + 1)) I oI { s with heap := h, toks := tk } Q) E { s with heap := h, toks := tk })
    (done : ∀ m' nw h tk, J n m' nw → Fr h₀ env.locals h m' → News h₀ env.locals h nw → Q .next { s with heap := h, toks := tk }) :
    LoopAtV prog w A h₀ env x body Q E (.ref I) s := by
  refine ⟨I, fp, [I], n, P, St, m₀, news, J, rfl, W, hLf, (fun b hb => by rw [List.mem_singleton.mp hb]; exact hI), (fun p hp hq => hnI p hp (List.mem_singleton.mp hq)), hst, F, N, hj, ?_, ?_⟩
  · rintro i v m₁ nw s₁ own ⟨hh', tk', rfl⟩ hin hP hJ hoff hown hget hall hst₁ F₁ N₁
    obtain ⟨oI, hoI⟩ := hIo _ _ hst₁
    have hIown : (I, oI) ∈ own := hall I hIf hI _ hoI
    have hoff' : ∀ p ∈ nw, p.1 ≠ I := fun p hp e => hoff p hp (List.mem_singleton.mpr e)
    have N₂ : News h₀ env.locals hh' ((I, oI) :: nw) := fun p hp => by
      rcases List.mem_cons.mp hp with rfl | hp
      · exact N₁ _ (List.mem_append_left _ hIown)
      · exact N₁ _ (List.mem_append_right _ hp)
    refine wpAny_mono (turn i v m₁ nw hh' tk' oI hin hP hJ hoff' F₁ N₂) (fun f s₂ p => ?_) fun _ _ e => e
    have fin : JEnd h₀ env.locals (J (i + 1)) I oI { s with heap := hh', toks := tk' } s₂ → LoopStepU h₀ env.locals [I] own (J (i + 1)) { s with heap := hh', toks := tk' } .next s₂ := by
      rintro ⟨h', tk, m', news', nx, e, F', N', hi, hn, ho, hm⟩
      refine ⟨rfl, h', tk, m', nx, e, F', fun p hp => ?_, fun p hp hq => ho p hp (List.mem_singleton.mp hq), hm⟩
      rcases List.mem_append.mp hp with hp | hp
      · have h2 : hh'.get? p.1 = some p.2 := hget p hp
        rcases hfp p.1 (hown p hp) with h1 | ⟨o, h1⟩ | ⟨o, h1⟩
        · have h3 : p = (I, oI) := by
            rw [h1] at h2
            exact Prod.ext h1 (Option.some.inj (h2.symm.trans hoI))
          rw [h3]; exact N' _ hi
        · have := (N₁ p (List.mem_append_left _ hp)).2.2
          rw [h1] at this; cases this
        · have h4 := hdep _ _ _ hJ _ h1
          have h5 := (N₂ _ (List.mem_cons_of_mem _ h4)).1
          have h3 : p = (p.1, o) := Prod.ext rfl (Option.some.inj (h2.symm.trans h5))
          rw [h3]
          exact N' _ (hn _ (hdep _ _ _ hm _ h1))
      · exact N' _ (hn p hp)
    cases f with
    | ret v => exact .ret p
    | brk => exact .brk p
    | next => exact .next (fin p)
    | cont => exact .cont (fin p)
  · rintro h' tk m' news' F' N' _ hJ
    exact done m' news' h' tk hJ F' N'

theorem j_range {r : Addr} {a₀ b₀ c : Int} {t₀ u₀ v₀ : Tok} {m₀ : Str → Option Value} {news : List (Addr × Obj)} (n : Nat)
    (J : Nat → (Str → Option Value) → List (Addr × Obj) → Prop)
    (hh : A.handled = none) (hr : IsRange s.heap r a₀ b₀ c t₀ u₀ v₀) (hsmall : Builtin.Range.small a₀ b₀ c = true) (hn : Builtin.Range.rangeSize a₀ b₀ c = (n : Int))
    (F : Fr h₀ env.locals s.heap m₀) (N : News h₀ env.locals s.heap news) (hj : J 0 m₀ news)
    (turn : ∀ i t m₁ nw h tk I oI, i < n → J i m₁ nw → (∀ p ∈ nw, p.1 ≠ I) → Fr h₀ env.locals h (fun y => if y = x then some (.int (a₀ + (i : Int) * c) t) else m₁ y) → News h₀ env.locals h ((I, oI) :: nw) →
      wpAny (model prog w) A (execs body env) (JPost h₀ env.locals (J (i + 1)) I oI { s with heap := h, toks := tk } Q) E { s with heap := h, toks := tk })
    (done : ∀ m' nw h tk, J n m' nw → Fr h₀ env.locals h m' → News h₀ env.locals h nw → Q .next { s with heap := h, toks := tk }) :
    wpAny (model prog w) A (pyIter (.ref r)) (fun it s₂ => LoopAtV prog w A h₀ env x body Q E it s₂) E s := by
  refine wpAny_pyIter_range hr hsmall ?_
  have hnew := next_is_new F
  refine j_loop J [] (Walks.range hh _ a₀ c n) hnew (List.mem_singleton.mpr rfl) (fun i h st => ⟨_, st⟩) ?_ ?_ (by show IsRangeIter _ _ _ _ _; rw [hn]; simpa using Heap.get?_push_size _ rfl) (F.push _) (fun p hp => ⟨Heap.get?_push_of_some _ (N p hp).1, (N p hp).2⟩) hj
    (fun _ _ _ _ p hp => nomatch hp) (fun b hb => .inl (List.mem_singleton.mp hb)) ?_ done
  · intro hm
    exact absurd F.ns.lt ((List.mem_singleton.mp hm) ▸ Nat.lt_irrefl _)
  · intro p hp hI
    exact absurd (Heap.lt_size (N p hp).1) (hI ▸ Nat.lt_irrefl _)
  · rintro i v m₁ nw h tk oI hin ⟨t, rfl⟩ hJ hoff F₁ N₁
    exact turn i t m₁ nw h tk _ oI hin hJ hoff F₁ N₁

theorem j_list {l : Addr} {items : Array Value} {c : Nat} {m₀ : Str → Option Value} {news : List (Addr × Obj)}
    (J : Nat → (Str → Option Value) → List (Addr × Obj) → Prop)
    (hh : A.handled = none) (hl : ∀ i m nw, J i m nw → (l, listOf items c) ∈ nw)
    (F : Fr h₀ env.locals s.heap m₀) (N : News h₀ env.locals s.heap news) (hj : J 0 m₀ news)
    (turn : ∀ i v m₁ nw h tk I oI, i < items.size → items[i]? = some v → J i m₁ nw → (∀ p ∈ nw, p.1 ≠ I) → Fr h₀ env.locals h (fun y => if y = x then some v else m₁ y) → News h₀ env.locals h ((I, oI) :: nw) →
      wpAny (model prog w) A (execs body env) (JPost h₀ env.locals (J (i + 1)) I oI { s with heap := h, toks := tk } Q) E { s with heap := h, toks := tk })
    (done : ∀ m' nw h tk, J items.size m' nw → Fr h₀ env.locals h m' → News h₀ env.locals h nw → Q .next { s with heap := h, toks := tk }) :
    wpAny (model prog w) A (pyIter (.ref l)) (fun it s₂ => LoopAtV prog w A h₀ env x body Q E it s₂) E s := by
  have hm := hl _ _ _ hj
  have hls : s.heap.IsList l items := ⟨_, (N _ hm).1, rfl, c, rfl⟩
  have hlt : l < s.heap.objs.size := Heap.lt_size (N _ hm).1
  refine wpAny_pyIter_list hls ?_
  have hnew := next_is_new F
  refine j_loop J [(l, listOf items c)] (Walks.list hh _ l (Nat.ne_of_lt hlt) items) hnew (by simp) (fun i h st => let ⟨⟨o, ho, _⟩, _⟩ := st; ⟨o, ho⟩) ?_ ?_ ⟨⟨_, Heap.get?_push_size _ rfl, rfl, rfl⟩, hls.at fun o e => Heap.get?_push_of_some _ e⟩ (F.push _) (fun p hp => ⟨Heap.get?_push_of_some _ (N p hp).1, (N p hp).2⟩) hj
    (fun _ _ _ q p hp => by rw [List.mem_singleton.mp hp]; exact hl _ _ _ q) (fun b hb => ?_) ?_ done
  · intro hm'
    rcases List.mem_cons.mp hm' with e | e
    · exact absurd F.ns.lt (e ▸ Nat.lt_irrefl _)
    · exact (N _ hm).2.1 (List.mem_singleton.mp e).symm
  · intro p hp hI
    exact absurd (Heap.lt_size (N p hp).1) (hI ▸ Nat.lt_irrefl _)
  · rcases List.mem_cons.mp hb with e | e
    · exact .inl e
    · exact .inr (.inr ⟨_, by rw [List.mem_singleton.mp e]; exact .head _⟩)
  · rintro i v m₁ nw h tk oI hin hP hJ hoff F₁ N₁
    exact turn i v m₁ nw h tk _ oI hin hP hJ hoff F₁ N₁
end
/-- names that may have been turned: their values are forgotten -/
theorem map_but (ys : List Str) {m m₀ : Str → Option Value} (h : ∀ z, z ∉ ys → m z = m₀ z) : m = fun z => if z ∈ ys then m z else m₀ z := by
  funext z; by_cases hz : z ∈ ys
  · simp only [if_pos hz]
  · simp only [if_neg hz]; exact h z hz
theorem map_at {y : Str} {v : Option Value} {m : Str → Option Value} (h : m y = v) : m = fun z => if z = y then v else m z := by
  funext z; by_cases hz : z = y
  · simp only [if_pos hz]; rw [hz]; exact h
  · simp only [if_neg hz]

theorem nm1 {h₀ h : Heap} {L a : Addr} {oa : Obj} {r : List (Addr × Obj)} (_ : News h₀ L h ((a, oa) :: r)) {P : Prop} (k : ∀ a', a' = a → P) : P := k a rfl
theorem nm2 {h₀ h : Heap} {L a b : Addr} {oa ob : Obj} {r : List (Addr × Obj)} (_ : News h₀ L h ((a, oa) :: (b, ob) :: r)) {P : Prop} (k : ∀ a' b', a' = a → b' = b → P) : P := k a b rfl rfl
theorem nm3 {h₀ h : Heap} {L a b c : Addr} {oa ob oc : Obj} {r : List (Addr × Obj)} (_ : News h₀ L h ((a, oa) :: (b, ob) :: (c, oc) :: r)) {P : Prop} (k : ∀ a' b' c', a' = a → b' = b → c' = c → P) : P := k a b c rfl rfl rfl
theorem nm1o {h₀ h : Heap} {L a : Addr} {oa : Obj} {r : List (Addr × Obj)} (_ : News h₀ L h ((a, oa) :: r)) {P : Prop} (k : ∀ a' o', a' = a → o' = oa → P) : P := k a oa rfl rfl
theorem nm4 {h₀ h : Heap} {L d : Addr} {a b c : Addr × Obj} {od : Obj} {r : List (Addr × Obj)} (_ : News h₀ L h (a :: b :: c :: (d, od) :: r)) {P : Prop} (k : ∀ d', d' = d → P) : P := k d rfl
theorem news_cons2 {h₀ h : Heap} {L : Addr} {a : Addr} {o : Obj} {nw : List (Addr × Obj)} (hx : h.get? a = some o ∧ a ≠ L ∧ h₀.get? a = none) (N : News h₀ L h nw) : News h₀ L h ((a, o) :: nw) := fun p hp => by
  rcases List.mem_cons.mp hp with rfl | hp
  · exact hx
  · exact N _ hp
theorem nmF {h₀ h : Heap} {L : Addr} {m : Str → Option Value} (_ : Fr h₀ L h m) {P : Prop} (k : ∀ m', m' = m → P) : P := k m rfl
theorem nmT {h₀ h : Heap} {L : Addr} {x : Addr × Obj} {r : List (Addr × Obj)} (_ : News h₀ L h (x :: r)) {P : Prop} (k : ∀ r', r' = r → P) : P := k r rfl
theorem nmN {h₀ h : Heap} {L : Addr} {r : List (Addr × Obj)} (_ : News h₀ L h r) {P : Prop} (k : ∀ r', r' = r → P) : P := k r rfl

def AllNe (I : Addr) : List (Addr × Obj) → Prop
  | [] => True
  | p :: r => @Ne Nat p.1 I ∧ AllNe I r
theorem allNe_of {I : Addr} : ∀ {l : List (Addr × Obj)}, (∀ p ∈ l, p.1 ≠ I) → AllNe I l
  | [], _ => trivial
  | p :: _, h => ⟨h p (.head _), allNe_of fun q hq => h q (.tail _ hq)⟩
theorem news_lt {h₀ h : Heap} {L : Addr} {news : List (Addr × Obj)} (N : News h₀ L h news) : AllLt h.objs.size news := allLt_of fun p hp => Heap.lt_size (N p hp).1

section
variable {prog : Program} {w : World} {A : Around} {E : Value → Shared → Prop} {s : Shared} {env : Env} {h₀ : Heap} {target : Expr} {body : List Stmt} {Q : Flow → Shared → Prop}
def JPostT (h₀ : Heap) (L : Addr) (J : (Str → Option Value) → List (Addr × Obj) → Prop) (I : Addr) (oI : Obj) (s₁ : Shared) (f : Flow) (s₂ : Shared) : Prop := f = .next ∧ JEnd h₀ L J I oI s₁ s₂
theorem j_loopT {I : Addr} {fp : List Addr} {n : Nat} {P : Nat → Value → Prop} {St : Nat → Heap → Prop} {m₀ : Str → Option Value} {news : List (Addr × Obj)}
    (J : Nat → (Str → Option Value) → List (Addr × Obj) → Prop) (dep : List (Addr × Obj))
    (W : Walks prog w A I fp [I] n P St) (hI : h₀.get? I = none) (hIf : I ∈ fp) (hIo : ∀ i h, St i h → ∃ o, h.get? I = some o) (hLf : env.locals ∉ fp) (hnI : ∀ p ∈ news, p.1 ≠ I) (hst : St 0 s.heap)
    (F : Fr h₀ env.locals s.heap m₀) (N : News h₀ env.locals s.heap news)
    (hgo : ∀ i (s' : Shared) v (Q' : Unit → Shared → Prop), St i s'.heap → Q' () s' → wpAny (model prog w) A (letOwnedTupleGo target (.ref I) v) Q' E s') (hj : J 0 m₀ news)
    (hdep : ∀ i m nw, J i m nw → ∀ p ∈ dep, p ∈ nw) (hfp : ∀ b ∈ fp, b = I ∨ (∃ o, h₀.get? b = some o) ∨ ∃ o, (b, o) ∈ dep)
    (turn : ∀ i v m₁ nw s₁ oI, i < n → P i v → J i m₁ nw → (∀ p ∈ nw, p.1 ≠ I) → Fr h₀ env.locals s₁.heap m₁ → News h₀ env.locals s₁.heap ((I, oI) :: nw) →
      wpAny (model prog w) A (assign target env v) (fun _ s₃ => wpAny (model prog w) A (execs body env) (JPostT h₀ env.locals (J (i + 1)) I oI s₁) E s₃) E s₁)
    (done : ∀ m' nw h tk, J n m' nw → Fr h₀ env.locals h m' → News h₀ env.locals h nw → Q .next { s with heap := h, toks := tk }) :
    LoopAtT prog w A h₀ env target body Q E (.ref I) s := by
  refine ⟨I, fp, [I], n, P, St, m₀, news, J, rfl, W, hLf, (fun b hb => by rw [List.mem_singleton.mp hb]; exact hI), (fun p hp hq => hnI p hp (List.mem_singleton.mp hq)), hst, F, N, hgo, hj, ?_, ?_⟩
  · rintro i v m₁ nw s₁ own hin hP hJ hoff hown hget hall hst₁ F₁ N₁
    obtain ⟨oI, hoI⟩ := hIo _ _ hst₁
    have hIown : (I, oI) ∈ own := hall I hIf hI _ hoI
    have hoff' : ∀ p ∈ nw, p.1 ≠ I := fun p hp e => hoff p hp (List.mem_singleton.mpr e)
    have N₂ : News h₀ env.locals s₁.heap ((I, oI) :: nw) := fun p hp => by
      rcases List.mem_cons.mp hp with rfl | hp
      · exact N₁ _ (List.mem_append_left _ hIown)
      · exact N₁ _ (List.mem_append_right _ hp)
    refine wpAny_mono (turn i v m₁ nw s₁ oI hin hP hJ hoff' F₁ N₂) (fun _ s₃ h₃ => wpAny_mono h₃ (fun f s₂ p => ?_) fun _ _ e => e) fun _ _ e => e
    obtain ⟨rfl, h', tk, m', news', nx, e, F', N', hi, hn, ho, hm⟩ := p
    refine ⟨rfl, h', tk, m', nx, e, F', fun p hp => ?_, fun p hp hq => ho p hp (List.mem_singleton.mp hq), hm⟩
    rcases List.mem_append.mp hp with hp | hp
    · have h2 : s₁.heap.get? p.1 = some p.2 := hget p hp
      rcases hfp p.1 (hown p hp) with h1 | ⟨o, h1⟩ | ⟨o, h1⟩
      · have h3 : p = (I, oI) := by
          rw [h1] at h2
          exact Prod.ext h1 (Option.some.inj (h2.symm.trans hoI))
        rw [h3]; exact N' _ hi
      · have := (N₁ p (List.mem_append_left _ hp)).2.2
        rw [h1] at this; cases this
      · have h4 := hdep _ _ _ hJ _ h1
        have h5 := (N₂ _ (List.mem_cons_of_mem _ h4)).1
        have h3 : p = (p.1, o) := Prod.ext rfl (Option.some.inj (h2.symm.trans h5))
        rw [h3]
        exact N' _ (hn _ (hdep _ _ _ hm _ h1))
    · exact N' _ (hn p hp)
  · rintro h' tk m' news' F' N' _ hJ
    exact done m' news' h' tk hJ F' N'

theorem j_listT {l : Addr} {items : Array Value} {c : Nat} {m₀ : Str → Option Value} {news : List (Addr × Obj)}
    (J : Nat → (Str → Option Value) → List (Addr × Obj) → Prop)
    (hh : A.handled = none) (hl : ∀ i m nw, J i m nw → (l, listOf items c) ∈ nw)
    (F : Fr h₀ env.locals s.heap m₀) (N : News h₀ env.locals s.heap news) (hj : J 0 m₀ news)
    (turn : ∀ i v m₁ nw s₁ I oI, i < items.size → items[i]? = some v → J i m₁ nw → (∀ p ∈ nw, p.1 ≠ I) → Fr h₀ env.locals s₁.heap m₁ → News h₀ env.locals s₁.heap ((I, oI) :: nw) →
      wpAny (model prog w) A (assign target env v) (fun _ s₃ => wpAny (model prog w) A (execs body env) (JPostT h₀ env.locals (J (i + 1)) I oI s₁) E s₃) E s₁)
    (done : ∀ m' nw h tk, J items.size m' nw → Fr h₀ env.locals h m' → News h₀ env.locals h nw → Q .next { s with heap := h, toks := tk }) :
    wpAny (model prog w) A (pyIter (.ref l)) (fun it s₂ => LoopAtT prog w A h₀ env target body Q E it s₂) E s := by
  have hm := hl _ _ _ hj
  have hls : s.heap.IsList l items := ⟨_, (N _ hm).1, rfl, c, rfl⟩
  have hlt : l < s.heap.objs.size := Heap.lt_size (N _ hm).1
  refine wpAny_pyIter_list hls ?_
  have hnew := next_is_new F
  refine j_loopT J [(l, listOf items c)] (Walks.list hh _ l (Nat.ne_of_lt hlt) items) hnew (by simp) (fun i h st => let ⟨⟨o, ho, _⟩, _⟩ := st; ⟨o, ho⟩) ?_ ?_ ⟨⟨_, Heap.get?_push_size _ rfl, rfl, rfl⟩, hls.at fun o e => Heap.get?_push_of_some _ e⟩ (F.push _) (fun p hp => ⟨Heap.get?_push_of_some _ (N p hp).1, (N p hp).2⟩) (fun i s' v Q' st hQ' => letGo_listiter st.1 hQ') hj
    (fun _ _ _ q p hp => by rw [List.mem_singleton.mp hp]; exact hl _ _ _ q) (fun b hb => ?_) ?_ done
  · intro hm'
    rcases List.mem_cons.mp hm' with e | e
    · exact absurd F.ns.lt (e ▸ Nat.lt_irrefl _)
    · exact (N _ hm).2.1 (List.mem_singleton.mp e).symm
  · intro p hp hI
    exact absurd (Heap.lt_size (N p hp).1) (hI ▸ Nat.lt_irrefl _)
  · rcases List.mem_cons.mp hb with e | e
    · exact .inl e
    · exact .inr (.inr ⟨_, by rw [List.mem_singleton.mp e]; exact .head _⟩)
  · rintro i v m₁ nw s₁ oI hin hP hJ hoff F₁ N₁
    exact turn i v m₁ nw s₁ _ oI hin hP hJ hoff F₁ N₁
end
theorem news_cons {h₀ h : Heap} {L : Addr} {x : Addr × Obj} {nw : List (Addr × Obj)} (N : News h₀ L h nw) (hx : x ∈ nw) : News h₀ L h (x :: nw) := fun p hp => by
  rcases List.mem_cons.mp hp with rfl | hp
  · exact N _ hx
  · exact N _ hp
theorem news_sub {h₀ h : Heap} {L : Addr} {nw nw' : List (Addr × Obj)} (N : News h₀ L h nw) (hs : ∀ p ∈ nw', p ∈ nw) : News h₀ L h nw' := fun p hp => N p (hs p hp)
end Mine
end
section
open PySem PySem.W PyProof.Rows PySem.Calls
namespace Mine
theorem kind_ix : builtinKind "_operator.index" = none := by decide +kernel
theorem plain_ix : plainId "_operator.index" = true := by decide +kernel
theorem entry_ix : entryFor table "_operator.index" = some Builtin.«_operator.index» := entryFor_of_fast (by kernel_rfl)
theorem args_ix (v : Value) : argsOk "_operator.index" ⟨[v], []⟩ := by unfold argsOk; kernel_rfl
section
variable {prog : Program} {w : World} {A : Around} {E : Value → Shared → Prop} {s : Shared}
theorem call_index_int {a : Int} {t : Tok} {Q : Value → Shared → Prop} (h : Q (.int a t) s) :
    wpAny (model prog w) A (call (.builtin "_operator.index") [.int a t]) Q E s := by
  refine call_function_entry kind_ix plain_ix entry_ix (args_ix _) ?_
  unfold Builtin.«_operator.index»
  exact wpAny_bind (wpAny_pure (wpAny_bind (wpAny_pure (wpAny_pure ⟨_, rfl, h⟩))))
end
end Mine
end
section
open PySem PySem.W PyProof.Rows PySem.Calls
set_option maxRecDepth 100000
namespace Mine
section
variable {prog : Program} {w : World} {A : Around} {E : Value → Shared → Prop} {s : Shared} {h₀ : Heap} {L t : Addr} {m : Str → Option Value} {news : List (Addr × Obj)}
/-- the sum of a list of ints of the ledger, of any length and size -/
theorem sum_led {items : Array Value} {c : Nat} {ns : List Int} {Q : Value → Shared → Prop} (hh : A.handled = none) (F : Fr h₀ L s.heap m) (N : News h₀ L s.heap news) (hm : (t, W.listOf items c) ∈ news) (hi : IntsAre items.toList ns)
    (h : ∀ h' tk t', Fr h₀ L h' m → News h₀ L h' news → Q (.int ns.sum t') { s with heap := h', toks := tk }) :
    wpAny (model prog w) A (call (.builtin "sum") [.ref t]) Q E s := by
  have hl : s.heap.IsList t items := ⟨_, (N _ hm).1, rfl, c, rfl⟩
  have ha : AllInts items := by have := hi.allInts; simpa using this
  obtain ⟨xs, hx⟩ := ha.items
  have hn : numsOf items.toList = ns := hi.numsOf
  rw [hx] at hl hn
  rw [nums_intItems] at hn
  refine sum_intListG hh hl fun h' tk t' hk => ?_
  have := h h' tk t' (F.keeps hk) (N.grown hk)
  rw [preSum_eq, List.take_of_length_le (by simp), hn]
  exact this
end
theorem news_uniq {h₀ h : Heap} {L a : Addr} {o o' : Obj} {nw : List (Addr × Obj)} (N : News h₀ L h nw) (h1 : (a, o) ∈ nw) (h2 : (a, o') ∈ nw) : o = o' :=
  Option.some.inj ((N _ h1).1.symm.trans (N _ h2).1)
theorem listOf_inj {a b : Array Value} {c d : Nat} (h : W.listOf a c = W.listOf b d) : a = b := by
  simp only [W.listOf, Obj.mk.injEq, Data.seq.injEq] at h
  exact h.2.2.1.1
theorem ints5 {vs : List Value} {a b c d e : Int} (h : IntsAre vs [a, b, c, d, e]) : ∃ t1 t2 t3 t4 t5, vs = [.int a t1, .int b t2, .int c t3, .int d t4, .int e t5] := by
  obtain ⟨t1, v1, e1, h1⟩ := h.cons_inv
  obtain ⟨t2, v2, e2, h2⟩ := h1.cons_inv
  obtain ⟨t3, v3, e3, h3⟩ := h2.cons_inv
  obtain ⟨t4, v4, e4, h4⟩ := h3.cons_inv
  obtain ⟨t5, v5, e5, h5⟩ := h4.cons_inv
  have e6 := h5.nil_inv
  subst e6 e5 e4 e3 e2 e1
  exact ⟨_, _, _, _, _, rfl⟩
theorem ints6 {vs : List Value} {a b c d e f : Int} (h : IntsAre vs [a, b, c, d, e, f]) : ∃ t1 t2 t3 t4 t5 t6, vs = [.int a t1, .int b t2, .int c t3, .int d t4, .int e t5, .int f t6] := by
  obtain ⟨t1, v1, e1, h1⟩ := h.cons_inv
  obtain ⟨t2, t3, t4, t5, t6, e2⟩ := ints5 h1
  subst e2 e1
  exact ⟨_, _, _, _, _, _, rfl⟩
theorem len6 {ns : List Int} (h : ns.length = 6) : ∃ a b c d e f, ns = [a, b, c, d, e, f] := by
  rcases ns with _ | ⟨a, _ | ⟨b, _ | ⟨c, _ | ⟨d, _ | ⟨e, _ | ⟨f, _ | ⟨g, r⟩⟩⟩⟩⟩⟩⟩ <;> simp only [List.length_cons, List.length_nil] at h <;> first | omega | exact ⟨_, _, _, _, _, _, rfl⟩
theorem len5 {ns : List Int} (h : ns.length = 5) : ∃ a b c d e, ns = [a, b, c, d, e] := by
  rcases ns with _ | ⟨a, _ | ⟨b, _ | ⟨c, _ | ⟨d, _ | ⟨e, _ | ⟨f, r⟩⟩⟩⟩⟩⟩ <;> simp only [List.length_cons, List.length_nil] at h <;> first | omega | exact ⟨_, _, _, _, _, rfl⟩
theorem led_split {h₀ h : Heap} {L t : Addr} {o : Obj} {nw : List (Addr × Obj)} (N : News h₀ L h nw) (hm : (t, o) ∈ nw) : ∃ rest, News h₀ L h ((t, o) :: rest) ∧ (∀ p ∈ rest, p.1 ≠ t) ∧ (∀ p ∈ nw, p.1 ≠ t → p ∈ rest) :=
  ⟨nw.filter fun p => decide (p.1 ≠ t), fun p hp => by
    rcases List.mem_cons.mp hp with rfl | hp
    · exact N _ hm
    · exact N _ (List.mem_filter.mp hp).1, fun p hp => of_decide_eq_true (List.mem_filter.mp hp).2, fun p hp hq => List.mem_filter.mpr ⟨hp, decide_eq_true hq⟩⟩
section
open PySem.SeqAt
variable {prog : Program} {w : World} {A : Around} {E : Value → Shared → Prop} {s : Shared} {h₀ : Heap} {L : Addr} {m : Str → Option Value} {news : List (Addr × Obj)}
theorem isStrOf_at (k : Str) : ∀ {vs : List Value} {ys : List Str}, StrsAre vs ys → ∀ (j : Nat) (h1 : j < vs.length) (h2 : j < ys.length), isStrOf k vs[j] = (ys[j] == k)
  | _, _, .cons n t _, 0, _, _ => rfl
  | _, _, .cons n t r, j + 1, h1, h2 => isStrOf_at k r j (Nat.lt_of_succ_lt_succ h1) (Nat.lt_of_succ_lt_succ h2)
theorem strsLen : ∀ {vs : List Value} {ys : List Str}, StrsAre vs ys → vs.length = ys.length
  | _, _, .nil => rfl
  | _, _, .cons _ _ r => by simp [strsLen r]
/-- the place of a text in a list of texts -/
theorem index_list_strs {l : Addr} {vs : List Value} {ys : List Str} {k : Str} {t : Tok} {Q : Value → Shared → Prop} (j : Nat) (hl : s.heap.IsList l vs.toArray) (hi : StrsAre vs ys)
    (hsz : vs.length ≤ 1000) (hk : ys[j]? = some k) (hno : (ys.take j).all (fun y => !(y == k)) = true) (h : Q (.int (j : Nat) s.toks) { s with toks := s.toks + 1 }) :
    wpAny (model prog w) A (call (.builtin "list.index") [.ref l, .str k t]) Q E s := by
  obtain ⟨⟨cls, dd, data, sl⟩, ho, hc, n, hd⟩ := id hl
  simp only at hc hd
  subst hc hd
  have hlen := strsLen hi
  obtain ⟨hj, hjk⟩ := List.getElem?_eq_some_iff.mp hk
  refine call_meets PySem.F.slot_list_index ⟨_, ho, rfl⟩ PySem.F.entry_list_index (PySem.F.args_list_index_2 _ _)
    (list_indexAt l vs.toArray n dd sl (.str k t) (isStrOf k) j (by simpa [hlen] using hj) (by omega) ?_ ?_) ⟨ho, fun y hy => (eq_isStrOf k t hi y (by simpa using hy)).at _ _, h⟩
  · show isStrOf k vs[j] = true
    rw [isStrOf_at k hi _ (by omega) hj, hjk]; simp
  · intro i his hlt
    show isStrOf k vs[i] = false
    rw [isStrOf_at k hi i (by simpa using his) (by omega)]
    have := List.all_eq_true.mp hno (ys[i]'(by omega)) (by
      rw [List.mem_take_iff_getElem]
      exact ⟨i, by omega, rfl⟩)
    simpa using this
theorem len_got2 {nA : List (Addr × Obj)} {e t : Addr} {cls v1 v2 : Value} {Q : Value → Shared → Prop} (N : News h₀ L s.heap nA) (G : Got nA e t cls [v1, v2]) (h : Q (.int 2 (s.toks + 1)) { s with toks := s.toks + 1 + 1 }) :
    wpAny (model prog w) A (call (.builtin "len") [.ref t]) Q E s := len_tuple (Got.isTup N G) (by simp) h
end
end Mine
end
section
open PySem PySem.W PyProof.Rows PySem.Calls PySem.Spec
set_option maxRecDepth 100000
namespace Mine
open LCg
section
variable {prog : Program} {w : World} {A : Around} {E : Value → Shared → Prop} {R : Result → Shared → Prop} {s : Shared} {h₀ : Heap} {L : Addr} {m : Str → Option Value} {env : Env}

theorem compTurn2_0 (elt t0 i0 t1 i1 : Expr) (scope : Scope) (pos : Pos) (it acc : Value) (env : Env) :
    compTurn (.ListComp elt [⟨t0, i0, [], 0⟩, ⟨t1, i1, [], 0⟩] scope pos) 0 it acc env = (standAt i0.pos >>= fun _ => pyNext it >>= fun r => match r with
      | none => pure (.done .next)
      | some v => letOwnedTupleGo t0 it v >>= fun _ => assign t0 env v >>= fun _ =>
        eval i1 env >>= fun x => standAt i1.pos >>= fun _ => foldedSetIterable i1 env x >>= fun x =>
          holding [x] (pyIter x) >>= fun it' => runOwn (.compStart (.ListComp elt [⟨t0, i0, [], 0⟩, ⟨t1, i1, [], 0⟩] scope pos) 1 it' acc env) env >>= fun _ =>
          again (.compLoop (.ListComp elt [⟨t0, i0, [], 0⟩, ⟨t1, i1, [], 0⟩] scope pos) 0 it acc env)) := by rfl
theorem compTurn2_1 (elt t0 i0 t1 i1 : Expr) (scope : Scope) (pos : Pos) (it acc : Value) (env : Env) :
    compTurn (.ListComp elt [⟨t0, i0, [], 0⟩, ⟨t1, i1, [], 0⟩] scope pos) 1 it acc env = (standAt i1.pos >>= fun _ => pyNext it >>= fun r => match r with
      | none => pure (.done .next)
      | some v => letOwnedTupleGo t1 it v >>= fun _ => assign t1 env v >>= fun _ =>
        (eval elt env >>= fun x => call (.builtin "list.append") [acc, x] >>= fun _ => pure ()) >>= fun _ =>
          again (.compLoop (.ListComp elt [⟨t0, i0, [], 0⟩, ⟨t1, i1, [], 0⟩] scope pos) 1 it acc env)) := by rfl

theorem compStart2_1 {elt t0 i0 t1 i1 : Expr} {scope : Scope} {pos : Pos} {it acc : Value}
    (h0 : codeAny (model prog w) A (.compLoop (.ListComp elt [⟨t0, i0, [], 0⟩, ⟨t1, i1, [], 0⟩] scope pos) 1 it acc env) R s)
    (h : wpAny (model prog w) A (pyIter it) (fun it' s' => codeAny (model prog w) A (.compLoop (.ListComp elt [⟨t0, i0, [], 0⟩, ⟨t1, i1, [], 0⟩] scope pos) 1 it' acc env) R s')
      (notedBy (model prog w) A env fun x s' => R (.error x) s') s) :
    codeAny (model prog w) A (.compStart (.ListComp elt [⟨t0, i0, [], 0⟩, ⟨t1, i1, [], 0⟩] scope pos) 1 it acc env) R s := by
  refine codeAny_of_tree ?_
  show wpAny _ _ ((compStart (.ListComp elt [⟨t0, i0, [], 0⟩, ⟨t1, i1, [], 0⟩] scope pos) 1 it acc env).onRaise (fun x => do noteFrame x env; standAt theWindowsPlace)) _ _ s
  refine wpAny_notedAt ?_
  unfold compStart
  show wpAny _ _ (ask >>= _) _ _ s
  refine wpAny_bind (wpAny_askSetting (wpAny_ite ?_))
  split
  · first
      | exact wpAny_bind (wpAny_pure (wpAny_pure (And.intro rfl h0)))
      | exact wpAny_pure (And.intro rfl h0)
  · refine wpAny_bind (wpAny_rule ?_)
    show wpAny _ _ (standAt i1.pos >>= _) _ _ s
    exact wpAny_bind (wpAny_standAt (wpAny_bind (wpAny_mono h (fun it' s' h' => wpAny_pure (And.intro rfl h')) fun _ _ x => x)))

theorem compLoop2_1 {elt t0 i0 t1 i1 : Expr} {scope : Scope} {pos : Pos} {it acc : Value} (I : Nat → Shared → Prop)
    (turn : ∀ n s, I n s → wpAny (model prog w) A (pyNext it) (fun r s₁ => match r with
      | none => R (.ok .next) s₁
      | some v => wpAny (model prog w) A (assign t1 env v) (fun _ s₂ =>
          wpAny (model prog w) A (eval elt env) (fun x s₄ =>
              wpAny (model prog w) A (call (.builtin "list.append") [acc, x]) (fun _ s₅ => ∃ m, m < n ∧ I m s₅) (notedBy (model prog w) A env fun e s' => R (.error e) s') s₄) (notedBy (model prog w) A env fun e s' => R (.error e) s') s₂) (notedBy (model prog w) A env fun e s' => R (.error e) s') s₁) (notedBy (model prog w) A env fun e s' => R (.error e) s') s)
    (n : Nat) (h : I n s) (ht : ∀ v, letOwnedTupleGo t1 it v = pure () := by intro _; rfl) :
    codeAny (model prog w) A (.compLoop (.ListComp elt [⟨t0, i0, [], 0⟩, ⟨t1, i1, [], 0⟩] scope pos) 1 it acc env) R s := by
  refine codeAny_loop rfl I (fun n s hI => ?_) n h
  show wpAny _ A ((compTurn (.ListComp elt [⟨t0, i0, [], 0⟩, ⟨t1, i1, [], 0⟩] scope pos) 1 it acc env).onRaise (fun x => do noteFrame x env; theTreesLotGoes x)) _ _ s
  refine wpAny_noted ?_
  rw [compTurn2_1]
  refine wpAny_bind (wpAny_standAt (wpAny_bind (wpAny_mono (turn n s hI) (fun r s₁ h₁ => ?_) fun _ _ h' => h')))
  cases r with
  | none => exact wpAny_pure h₁
  | some v =>
    refine wpAny_bind (wpAny_of_eq (ht v) ?_)
    refine wpAny_bind (wpAny_mono h₁ (fun _ s₂ h₂ => wpAny_bind (wpAny_bind (wpAny_mono h₂ (fun x s₄ h₄ => wpAny_bind (wpAny_mono h₄ (fun _ s₅ h₅ => wpAny_pure (wpAny_pure ⟨rfl, h₅⟩)) fun _ _ h' => h')) fun _ _ h' => h'))) fun _ _ h' => h')

theorem compLoop2_0 {elt t0 i0 t1 i1 : Expr} {scope : Scope} {pos : Pos} {it acc : Value} (I : Nat → Shared → Prop)
    (turn : ∀ n s, I n s → wpAny (model prog w) A (pyNext it) (fun r s₁ => match r with
      | none => R (.ok .next) s₁
      | some v => wpAny (model prog w) A (assign t0 env v) (fun _ s₂ =>
          wpAny (model prog w) A (eval i1 env) (fun x s₃ => wpAny (model prog w) A (pyIter x) (fun it' s₄ =>
            codeAny (model prog w) A (.compStart (.ListComp elt [⟨t0, i0, [], 0⟩, ⟨t1, i1, [], 0⟩] scope pos) 1 it' acc env)
              (fun r s₅ => match r with | .ok _ => ∃ m, m < n ∧ I m s₅ | .error _ => False) s₄)
            (notedBy (model prog w) A env fun e s' => R (.error e) s') s₃) (notedBy (model prog w) A env fun e s' => R (.error e) s') s₂) (notedBy (model prog w) A env fun e s' => R (.error e) s') s₁) (notedBy (model prog w) A env fun e s' => R (.error e) s') s)
    (n : Nat) (h : I n s) (hs : ∀ x, foldedSetIterable i1 env x = pure x) (ht : ∀ v, letOwnedTupleGo t0 it v = pure () := by intro _; rfl) :
    codeAny (model prog w) A (.compLoop (.ListComp elt [⟨t0, i0, [], 0⟩, ⟨t1, i1, [], 0⟩] scope pos) 0 it acc env) R s := by
  refine codeAny_loop rfl I (fun n s hI => ?_) n h
  show wpAny _ A ((compTurn (.ListComp elt [⟨t0, i0, [], 0⟩, ⟨t1, i1, [], 0⟩] scope pos) 0 it acc env).onRaise (fun x => do noteFrame x env; theTreesLotGoes x)) _ _ s
  refine wpAny_noted ?_
  rw [compTurn2_0]
  refine wpAny_bind (wpAny_standAt (wpAny_bind (wpAny_mono (turn n s hI) (fun r s₁ h₁ => ?_) fun _ _ h' => h')))
  cases r with
  | none => exact wpAny_pure h₁
  | some v =>
    refine wpAny_bind (wpAny_of_eq (ht v) ?_)
    refine wpAny_bind (wpAny_mono h₁ (fun _ s₂ h₂ => wpAny_bind (wpAny_mono h₂ (fun x s₃ h₃ => ?_) fun _ _ h' => h')) fun _ _ h' => h')
    refine wpAny_bind (wpAny_standAt (wpAny_bind (wpAny_of_eq (hs x) (wpAny_bind (wpAny_holding (wpAny_mono h₃ (fun it' s₄ h₄ => ?_) fun _ _ h' => h'))))))
    refine wpAny_bind (wpAny_runOwn (E := notedBy (model prog w) A env fun e s' => R (.error e) s') (codeAny_mono h₄ fun r s₅ h₅ => ?_))
    cases r with
    | ok f => exact wpAny_pure ⟨rfl, h₅⟩
    | error e => exact h₅.elim

def CEnd2 (h₀ : Heap) (L : Addr) (m : Str → Option Value) (s₁ : Shared) (I : Addr) (oI : Obj) (I1 : Addr) (oI1 : Obj) (C : Addr) (oC : Obj) (D : Addr) (oD : Obj) (K : Value → List (Addr × Obj) → Prop) (y : Value) (s₂ : Shared) : Prop :=
  ∃ h' tk news', s₂ = { s₁ with heap := h', toks := tk } ∧ Fr h₀ L h' m ∧ News h₀ L h' ((I, oI) :: (I1, oI1) :: (C, oC) :: (D, oD) :: news') ∧ (∀ p ∈ news', p.1 ≠ I ∧ p.1 ≠ I1 ∧ p.1 ≠ C ∧ p.1 ≠ D) ∧ K y news'
theorem CEnd2.intro {s₁ : Shared} {I I1 C D : Addr} {oI oI1 oC oD : Obj} {K : Value → List (Addr × Obj) → Prop} {y : Value} {h' : Heap} {tk : Nat} {all : List (Addr × Obj)}
    (F : Fr h₀ L h' m) (N : News h₀ L h' all) (news' : List (Addr × Obj)) (sub : ∀ p ∈ (I, oI) :: (I1, oI1) :: (C, oC) :: (D, oD) :: news', p ∈ all) (off : ∀ p ∈ news', p.1 ≠ I ∧ p.1 ≠ I1 ∧ p.1 ≠ C ∧ p.1 ≠ D) (r : K y news') :
    CEnd2 h₀ L m s₁ I oI I1 oI1 C oC D oD K y { s₁ with heap := h', toks := tk } := ⟨h', tk, news', rfl, F, fun p hp => N p (sub p hp), off, r⟩

/-- what the second clause's source gives: a range by ones from nought on, of n numbers -/
def RngOut (h₀ : Heap) (L : Addr) (m : Str → Option Value) (s : Shared) (led : List (Addr × Obj)) (n : Nat) (xv : Value) (s' : Shared) : Prop :=
  ∃ r b t u v' h' tk', xv = .ref r ∧ s' = { s with heap := h', toks := tk' } ∧ Fr h₀ L h' m ∧ News h₀ L h' led ∧ IsRange h' r 0 b 1 t u v' ∧ Builtin.Range.small 0 b 1 = true ∧ Builtin.Range.rangeSize 0 b 1 = ((n : Nat) : Int)
theorem block2 {elt i0 i1 : Expr} {x0 x1 : Str} {p0 p1 : Pos} {scope : Scope} {cl : List (Str × Addr)} {pos : Pos} {s₂ : Shared} {I : Addr} {fp : List Addr} {n : Nat} {P : Nat → Value → Prop} {St : Nat → Heap → Prop} {S : List (Addr × Obj) → Prop} {news : List (Addr × Obj)}
    {RR : Value → Addr → Result → Shared → Prop} (J : Nat → Nat → List Value → List (Addr × Obj) → Prop) (cnt : Nat → Nat)
    (W : Walks prog w A I fp [I] n P St) (hIo : ∀ i h, St i h → ∃ o, h.get? I = some o)
    (hSt : ∀ i h h' o nw, St i h → h.get? I = some o → h'.get? I = some o → (∀ b o, h₀.get? b = some o → h'.get? b = some o) → News h₀ L h' nw → S nw → St i h')
    (hcell : ∀ y ∈ scope.names, y.2 ≠ .cell) (hkind : scope.kind = .function) (hx0 : scope.names.lookup x0 = some .local) (hx1 : scope.names.lookup x1 = some .local) (hx : x0 ≠ x1) (hst : St 0 s₂.heap) (hfp : ∀ b ∈ fp, b < s₂.heap.objs.size)
    (F : Fr h₀ L s₂.heap m) (N : News h₀ L s₂.heap news) (hIL : L ≠ I) (hI₀ : h₀.get? I = none) (off : ∀ p ∈ news, p.1 ≠ I)
    (hh : A.handled = none) (hfold : ∀ e : Env, ∀ x, foldedSetIterable i1 e x = pure x)
    (hS : ∀ i j ys nw, J i j ys nw → S nw) (hlen : ∀ i j ys nw, J i j ys nw → ys.length ≤ sizeLine) (hJ : J 0 0 [] news)
    (outer : ∀ i v ys nw h tk oI C oC D m₂ (E' : Value → Shared → Prop), i < n → P i v → J i 0 ys nw → NsObj oC m₂ → m₂ x0 = some v → Fr h₀ L h m → News h₀ L h ((I, oI) :: (C, oC) :: (D, lst ys) :: nw) → Off3 I C D nw → ((@Ne Nat I C) ∧ (@Ne Nat I D) ∧ (@Ne Nat C D)) →
      wpAny (model prog w) A (eval i1 (compEnvC scope cl C env)) (RngOut h₀ L m s₂ ((I, oI) :: (C, oC) :: (D, lst ys) :: nw) (cnt i)) E' { s₂ with heap := h, toks := tk })
    (inner : ∀ i v j u ys nw h tk oI I1 oI1 C oC D m₂ (E' : Value → Shared → Prop), i < n → P i v → j < cnt i → J i j ys nw → NsObj oC m₂ → m₂ x0 = some v → m₂ x1 = some (.int (j : Int) u) → Fr h₀ L h m →
      News h₀ L h ((I, oI) :: (I1, oI1) :: (C, oC) :: (D, lst ys) :: nw) → (∀ p ∈ nw, p.1 ≠ I ∧ p.1 ≠ I1 ∧ p.1 ≠ C ∧ p.1 ≠ D) → ((@Ne Nat I C) ∧ (@Ne Nat I D) ∧ (@Ne Nat C D) ∧ (@Ne Nat I1 I) ∧ (@Ne Nat I1 C) ∧ (@Ne Nat I1 D)) →
      wpAny (model prog w) A (eval elt (compEnvC scope cl C env)) (CEnd2 h₀ L m { s₂ with heap := h, toks := tk } I oI I1 oI1 C oC D (lst ys) (fun y nw' => J i (j + 1) (ys ++ [y]) nw')) E' { s₂ with heap := h, toks := tk })
    (step : ∀ i ys nw, i < n → J i (cnt i) ys nw → J (i + 1) 0 ys nw)
    (hRR : ∀ D C h tk m' ys news', Fr h₀ L h m → News h₀ L h ((D, lst ys) :: news') → Off1 D news' → h.Ns C m' → h₀.get? C = none → h₀.get? D = none → C ≠ L → D ≠ L → C ≠ D → (∀ p ∈ news', p.1 ≠ C) → J n 0 ys news' → RR (.ref D) C (.ok .next) { s₂ with heap := h, toks := tk }) :
    wpAny (model prog w) A (newList []) (fun acc s₃ => wpAny (model prog w) A (newFunctionEnv scope env.globals cl [] env.qual none .none (some env)) (fun cenv s₄ =>
      codeAny (model prog w) A (.compStart (.ListComp elt [⟨.Name x0 p0, i0, [], 0⟩, ⟨.Name x1 p1, i1, [], 0⟩] scope pos) 0 (.ref I) acc { cenv with scope := relabel scope env }) (RR acc cenv.locals) s₄) E s₃) E s₂ := by
  refine wpAny_newObj_type (wpAny_newFunctionEnv hcell (by intro y hy; simp at hy) (fun h₁ hns₁ hsb₁ => ?_) hkind)
  dsimp only at hns₁ hsb₁ ⊢
  generalize hH2 : s₂.heap.push { cls := .type "list", dict := none, data := .seq ([] : List Value).toArray } = H2 at hns₁ hsb₁ ⊢
  have hC : H2.objs.size = s₂.heap.objs.size + 1 := by rw [← hH2, Heap.size_push]
  have hDC : s₂.heap.objs.size ≠ H2.objs.size := by rw [hC]; exact Nat.ne_of_lt (Nat.lt_succ_self _)
  have below : ∀ b, b < s₂.heap.objs.size → b ≠ H2.objs.size ∧ b ≠ s₂.heap.objs.size := fun b hb => ⟨by rw [hC]; exact Nat.ne_of_lt (Nat.lt_succ_of_lt hb), Nat.ne_of_lt hb⟩
  have hDf : s₂.heap.objs.size ∉ fp := fun hm => Nat.lt_irrefl _ (hfp _ hm)
  have hCf : H2.objs.size ∉ fp := fun hm => by have := hfp _ hm; rw [hC] at this; exact Nat.lt_irrefl _ (Nat.lt_of_succ_lt this)
  have hIf : I ∈ fp := W.sub I (List.mem_singleton.mpr rfl)
  have hIlt : I < s₂.heap.objs.size := hfp I hIf
  have old : ∀ b o, s₂.heap.get? b = some o → h₁.get? b = some o := fun b o e => hsb₁.extBut b o (below b (Heap.lt_size e)).1 (Heap.get?_push_of_some _ (hH2 ▸ Heap.get?_push_of_some _ e))
  have hacc : h₁.get? s₂.heap.objs.size = some (lst []) := hsb₁.extBut _ _ hDC (Heap.get?_push_of_some _ (hH2 ▸ Heap.get?_push_size _ rfl))
  have hst₁ : St 0 h₁ := W.frame _ _ _ hst fun b _ o e => old b o e
  have fresh : ∀ a, s₂.heap.objs.size ≤ a → s₂.heap.get? a = none := fun a ha => by
    cases e : s₂.heap.get? a with
    | none => rfl
    | some o' => exact absurd (Heap.lt_size e) (Nat.not_lt.mpr ha)
  have fresh₀ : ∀ a, s₂.heap.objs.size ≤ a → h₀.get? a = none := fun a ha => by
    cases e : h₀.get? a with
    | none => rfl
    | some o' => have := F.keep a o' e; rw [fresh a ha] at this; cases this
  have hD₀ : h₀.get? s₂.heap.objs.size = none := fresh₀ _ (Nat.le_refl _)
  have hC₀ : h₀.get? H2.objs.size = none := fresh₀ _ (by rw [hC]; exact Nat.le_succ _)
  have hLlt : L < s₂.heap.objs.size := F.ns.lt
  have hDL : s₂.heap.objs.size ≠ L := Ne.symm (below L hLlt).2
  have hCL : H2.objs.size ≠ L := Ne.symm (below L hLlt).1
  have hCI : I ≠ H2.objs.size := (below I hIlt).1
  have hDI : I ≠ s₂.heap.objs.size := (below I hIlt).2
  have off₀ : Off3 I H2.objs.size s₂.heap.objs.size news := Off3.of fun p hp => ⟨off p hp, (below _ (Heap.lt_size (N p hp).1)).1, (below _ (Heap.lt_size (N p hp).1)).2⟩
  have loop : ∀ s₃ : Shared, s₃ = { s₂ with heap := h₁, toks := s₂.toks + ([] : List (Str × Value)).length } →
      codeAny (model prog w) A (.compLoop (.ListComp elt [⟨.Name x0 p0, i0, [], 0⟩, ⟨.Name x1 p1, i1, [], 0⟩] scope pos) 0 (.ref I) (.ref s₂.heap.objs.size) (compEnvC scope cl H2.objs.size env))
        (RR (.ref s₂.heap.objs.size) H2.objs.size) s₃ := by
    rintro s₃ rfl
    refine compLoop2_0
      (fun k s' => ∃ h' tk i ys m' news', s' = { s₂ with heap := h', toks := tk } ∧ i ≤ n ∧ k = n + 1 - i ∧ St i h' ∧ Fr h₀ L h' m ∧ h'.Ns H2.objs.size m' ∧ News h₀ L h' ((s₂.heap.objs.size, lst ys) :: news') ∧
        Off3 I H2.objs.size s₂.heap.objs.size news' ∧ J i 0 ys news') ?_ (n + 1)
      ⟨h₁, _, 0, [], _, news, rfl, Nat.zero_le _, rfl, hst₁, F.keeps old, hns₁, fun p hp => ?_, off₀, hJ⟩ (hfold _)
    · rintro k s' ⟨h', tk, i, ys, m', news', rfl, hi, rfl, hst', F', hn', N', off', J'⟩
      by_cases hlt : i < n
      · refine W.item i _ _ _ hlt hst' fun v h₂ tk₂ hPv hst₂ hk₂ => ?_
        refine wpAny_assign_Name (wpAny_storeName_local (lookup_relabel_local hx0) (hn'.at' fun o e => hk₂ _ o (by simpa using Ne.symm hCI) e) (fun h₃ hn₃ hs₃ => ?_) (by simp [compEnvC, relabel, hkind]))
        have hst₃ : St (i + 1) h₃ := W.frame _ _ _ hst₂ fun b hb o e => hs₃.extBut b o (fun q => hCf (by have q' : b = H2.objs.size := q; rw [← q']; exact hb)) e
        obtain ⟨oI, heI⟩ := hIo _ _ hst₃
        obtain ⟨oC, heC, hoC⟩ := ns_obj hn₃
        have F₃ : Fr h₀ L h₃ m := (fr_but F' hk₂ hIL hI₀).change hs₃ hCL hC₀
        have off3 := off'.mem
        have N₂ : News h₀ L h₂ ((s₂.heap.objs.size, lst ys) :: news') := news_but N' hk₂ fun p hp => by
          rcases List.mem_cons.mp hp with rfl | hp
          · exact Ne.symm hDI
          · exact (off3 p hp).1
        have N₃ : News h₀ L h₃ ((I, oI) :: (H2.objs.size, oC) :: (s₂.heap.objs.size, lst ys) :: news') := fun p hp => by
          rcases List.mem_cons.mp hp with rfl | hp
          · exact ⟨heI, Ne.symm hIL, hI₀⟩
          · rcases List.mem_cons.mp hp with rfl | hp
            · exact ⟨heC, hCL, hC₀⟩
            · have z := N₂ p hp
              refine ⟨hs₃.extBut _ _ ?_ z.1, z.2⟩
              rcases List.mem_cons.mp hp with rfl | hp
              · exact hDC
              · exact (off3 p hp).2.1
        refine wpAny_mono (outer i v ys news' h₃ _ oI H2.objs.size oC s₂.heap.objs.size _ _ hlt hPv J' hoC (by simp) F₃ N₃ off' ⟨hCI, hDI, Ne.symm hDC⟩) (fun xv s₄ h₄ => ?_) fun _ _ e => e
        obtain ⟨r, b, t, u, v', h₄, tk₄, rfl, rfl, F₄, N₄, hr, hsm, hsz⟩ := h₄
        refine wpAny_pyIter_range hr hsm ?_
        have lt4 : ∀ p ∈ (I, oI) :: (H2.objs.size, oC) :: (s₂.heap.objs.size, lst ys) :: news', p.1 < h₄.objs.size := fun p hp => Heap.lt_size (N₄ p hp).1
        have hI1 : h₀.get? h₄.objs.size = none := next_is_new F₄
        have hI1L : h₄.objs.size ≠ L := fun e => absurd F₄.ns.lt (e ▸ Nat.lt_irrefl _)
        have hI1I : h₄.objs.size ≠ I := fun e => Nat.lt_irrefl _ (e ▸ lt4 (I, oI) (.head _))
        have hI1C : h₄.objs.size ≠ H2.objs.size := fun e => Nat.lt_irrefl _ (e ▸ lt4 (H2.objs.size, oC) (.tail _ (.head _)))
        have hI1D : h₄.objs.size ≠ s₂.heap.objs.size := fun e => Nat.lt_irrefl _ (e ▸ lt4 (s₂.heap.objs.size, lst ys) (.tail _ (.tail _ (.head _))))
        have offI1 : ∀ p ∈ news', p.1 ≠ h₄.objs.size := fun p hp e => Nat.lt_irrefl _ (e ▸ lt4 p (.tail _ (.tail _ (.tail _ hp))))
        have W1 := range_walks (prog := prog) (w := w) (A := A) (I := h₄.objs.size) hh 0 (cnt i)
        have zI₄ := (N₄ (I, oI) (.head _)).1
        have iloop : ∀ s₅ : Shared, s₅ = { s₂ with heap := h₄.push { cls := .type "range_iterator", data := .fields #[rawInt 0, rawInt (Builtin.Range.rangeSize 0 b 1), rawInt 1] }, toks := tk₄ } →
            codeAny (model prog w) A (.compLoop (.ListComp elt [⟨.Name x0 p0, i0, [], 0⟩, ⟨.Name x1 p1, i1, [], 0⟩] scope pos) 1 (.ref h₄.objs.size) (.ref s₂.heap.objs.size) (compEnvC scope cl H2.objs.size env))
              (fun r s₅ => match r with
                | .ok _ => ∃ k, k < n + 1 - i ∧ ∃ h' tk i ys m' news', s₅ = { s₂ with heap := h', toks := tk } ∧ i ≤ n ∧ k = n + 1 - i ∧ St i h' ∧ Fr h₀ L h' m ∧ h'.Ns H2.objs.size m' ∧ News h₀ L h' ((s₂.heap.objs.size, lst ys) :: news') ∧
                    Off3 I H2.objs.size s₂.heap.objs.size news' ∧ J i 0 ys news'
                | .error _ => False) s₅ := by
          rintro s₅ rfl
          refine compLoop2_1
            (fun k s' => ∃ h' tk j ys oC m' news', s' = { s₂ with heap := h', toks := tk } ∧ j ≤ cnt i ∧ k = cnt i + 1 - j ∧ IsRangeIter h' h₄.objs.size (0 + (j : Nat) * 1) ((cnt i : Int) - (j : Nat)) 1 ∧ Fr h₀ L h' m ∧ NsObj oC m' ∧ m' x0 = some v ∧
              News h₀ L h' ((I, oI) :: (H2.objs.size, oC) :: (s₂.heap.objs.size, lst ys) :: news') ∧
              (∀ p ∈ news', p.1 ≠ I ∧ p.1 ≠ h₄.objs.size ∧ p.1 ≠ H2.objs.size ∧ p.1 ≠ s₂.heap.objs.size) ∧ J i j ys news') ?_ (cnt i + 1)
            ⟨_, _, 0, ys, oC, _, news', rfl, Nat.zero_le _, rfl, (by show IsRangeIter _ _ _ _ _; rw [hsz]; simpa using Heap.get?_push_size _ rfl), F₄.push _, hoC, (by simp), (fun p hp => ⟨Heap.get?_push_of_some _ (N₄ p hp).1, (N₄ p hp).2⟩),
              (fun p hp => ⟨(off3 p hp).1, offI1 p hp, (off3 p hp).2.1, (off3 p hp).2.2⟩), J'⟩
          rintro k s' ⟨h', tk, j, ys, oC, m', news', rfl, hj, rfl, hit, F', hoC', hm0, N', off', J'⟩
          by_cases hjl : j < cnt i
          · refine W1.item j _ _ _ hjl hit fun v₁ h₅ tk₅ hPv₁ hit₅ hk₅ => ?_
            obtain ⟨u₁, rfl⟩ := hPv₁
            have lt' : ∀ b, b ≠ h₄.objs.size → ∀ o, h'.get? b = some o → h₅.get? b = some o := fun b hb o e => hk₅ b o (by simpa using hb) e
            have hn5 : h₅.Ns H2.objs.size m' := (hoC'.ns (N' (H2.objs.size, oC) (.tail _ (.head _))).1).at' fun o e => lt' _ (Ne.symm hI1C) o e
            refine wpAny_assign_Name (wpAny_storeName_local (lookup_relabel_local hx1) hn5 (fun h₆ hn₆ hs₆ => ?_) (by simp [compEnvC, relabel, hkind]))
            have hit₆ : IsRangeIter h₆ h₄.objs.size (0 + ((j + 1 : Nat) : Int) * 1) ((cnt i : Int) - ((j + 1 : Nat) : Int)) 1 := hs₆.extBut _ _ hI1C hit₅
            obtain ⟨oC', heC', hoC''⟩ := ns_obj hn₆
            have F₅ : Fr h₀ L h₅ m := fr_but F' hk₅ (Ne.symm hI1L) hI1
            have F₆ : Fr h₀ L h₆ m := F₅.change hs₆ hCL hC₀
            have e1 : (0 : Int) + (j : Int) = (j : Int) := Int.zero_add _
            have N₆ : News h₀ L h₆ ((I, oI) :: (h₄.objs.size, { cls := .type "range_iterator", data := .fields #[rawInt (0 + ((j + 1 : Nat) : Int) * 1), rawInt ((cnt i : Int) - ((j + 1 : Nat) : Int)), rawInt 1] }) :: (H2.objs.size, oC') :: (s₂.heap.objs.size, lst ys) :: news') := fun p hp => by
              rcases List.mem_cons.mp hp with rfl | hp
              · have z := N' (I, oI) (.head _)
                exact ⟨hs₆.extBut _ _ hCI (lt' _ (Ne.symm hI1I) _ z.1), z.2⟩
              · rcases List.mem_cons.mp hp with rfl | hp
                · exact ⟨hit₆, hI1L, hI1⟩
                · rcases List.mem_cons.mp hp with rfl | hp
                  · exact ⟨heC', hCL, hC₀⟩
                  · rcases List.mem_cons.mp hp with rfl | hp
                    · have z := N' (s₂.heap.objs.size, lst ys) (.tail _ (.tail _ (.head _)))
                      exact ⟨hs₆.extBut _ _ hDC (lt' _ (Ne.symm hI1D) _ z.1), z.2⟩
                    · have z := N' p (.tail _ (.tail _ (.tail _ hp)))
                      exact ⟨hs₆.extBut _ _ (off' p hp).2.2.1 (lt' _ (off' p hp).2.1 _ z.1), z.2⟩
            refine wpAny_mono (inner i v j u₁ ys news' h₆ _ oI h₄.objs.size _ H2.objs.size oC' s₂.heap.objs.size _ _ hlt hPv hjl J' hoC'' (by simp only [if_neg hx]; exact hm0) (by simp [e1]) F₆ N₆ off' ⟨hCI, hDI, Ne.symm hDC, hI1I, hI1C, hI1D⟩) (fun y s₇ h₇ => ?_) fun _ _ e => e
            obtain ⟨h₇, tk₇, news₇, rfl, F₇, N₇, off₇, J₇⟩ := h₇
            have zD := (N₇ (s₂.heap.objs.size, lst ys) (.tail _ (.tail _ (.tail _ (.head _))))).1
            have zC := (N₇ (H2.objs.size, oC') (.tail _ (.tail _ (.head _)))).1
            have zI := (N₇ (I, oI) (.head _)).1
            have zI1 := (N₇ (h₄.objs.size, _) (.tail _ (.head _))).1
            have hl := hlen _ _ _ _ J'
            refine append_at (hsz := by show ys.toArray.size ≤ sizeLine; rw [List.size_toArray]; exact hl) zD fun h₈ hs₈ hD₈ => ?_
            refine ⟨cnt i + 1 - (j + 1), by omega, h₈, tk₇, j + 1, ys ++ [y], oC', _, news₇, rfl, hjl, rfl, hs₈.extBut _ _ hI1D zI1, F₇.change hs₈ hDL hD₀, hoC'', by simp only [if_neg hx]; exact hm0, fun p hp => ?_, off₇, J₇⟩
            rcases List.mem_cons.mp hp with rfl | hp
            · exact ⟨hs₈.extBut _ _ hDI zI, (N₇ (I, oI) (.head _)).2⟩
            · rcases List.mem_cons.mp hp with rfl | hp
              · exact ⟨hs₈.extBut _ _ (Ne.symm hDC) zC, hCL, hC₀⟩
              · rcases List.mem_cons.mp hp with rfl | hp
                · exact ⟨hD₈.trans (congrArg some (lst_snoc ys y)), hDL, hD₀⟩
                · have z := N₇ p (.tail _ (.tail _ (.tail _ (.tail _ hp))))
                  exact ⟨hs₈.extBut _ _ (off₇ p hp).2.2.2 z.1, z.2⟩
          · obtain rfl : j = cnt i := Nat.le_antisymm hj (Nat.not_lt.mp hjl)
            refine W1.done _ _ _ hit fun h₅ tk₅ hk₅ => ?_
            have lt' : ∀ b, b ≠ h₄.objs.size → ∀ o, h'.get? b = some o → h₅.get? b = some o := fun b hb o e => hk₅ b o (by simpa using hb) e
            have F₅ : Fr h₀ L h₅ m := fr_but F' hk₅ (Ne.symm hI1L) hI1
            have J₅ := step i ys news' hlt J'
            have zI₅ := lt' _ (Ne.symm hI1I) _ (N' (I, oI) (.head _)).1
            have N₅ : News h₀ L h₅ news' := fun p hp => by
              have z := N' p (.tail _ (.tail _ (.tail _ hp)))
              exact ⟨lt' _ (off' p hp).2.1 _ z.1, z.2⟩
            refine ⟨n + 1 - (i + 1), by omega, h₅, tk₅, i + 1, ys, m', news', rfl, hlt, rfl, hSt _ _ _ _ _ hst₃ heI zI₅ F₅.keep N₅ (hS _ _ _ _ J'), F₅, (hoC'.ns (N' (H2.objs.size, oC) (.tail _ (.head _))).1).at' fun o e => lt' _ (Ne.symm hI1C) o e, fun p hp => ?_, Off3.of fun p hp => ⟨(off' p hp).1, (off' p hp).2.2.1, (off' p hp).2.2.2⟩, J₅⟩
            rcases List.mem_cons.mp hp with rfl | hp
            · have z := N' (s₂.heap.objs.size, lst ys) (.tail _ (.tail _ (.head _)))
              exact ⟨lt' _ (Ne.symm hI1D) _ z.1, z.2⟩
            · exact N₅ p hp
        exact compStart2_1 (iloop _ rfl) (W1.self 0 _ _ _ (by show IsRangeIter _ _ _ _ _; rw [hsz]; simpa using Heap.get?_push_size _ rfl) (iloop _ rfl))
      · obtain rfl : i = n := Nat.le_antisymm hi (Nat.not_lt.mp hlt)
        refine W.done _ _ _ hst' fun h₂ tk₂ hk₂ => ?_
        have off3 := off'.mem
        exact hRR _ _ h₂ tk₂ _ ys news' (fr_but F' hk₂ hIL hI₀) (news_but N' hk₂ fun p hp => by
          rcases List.mem_cons.mp hp with rfl | hp
          · exact Ne.symm hDI
          · exact (off3 p hp).1) off'.one (hn'.at' fun o e => hk₂ _ o (by simpa using Ne.symm hCI) e) hC₀ hD₀ hCL hDL (Ne.symm hDC) (fun p hp => (off3 p hp).2.1) J'
    · rcases List.mem_cons.mp hp with rfl | hp
      · exact ⟨hacc, hDL, hD₀⟩
      · exact ⟨old _ _ (N p hp).1, (N p hp).2⟩
  exact codeAny_compStart_list (loop _ rfl) (W.self 0 _ _ _ hst₁ (loop _ rfl))

theorem Assign_ListComp2 {elt i0 i1 : Expr} {x0 x1 y : Str} {p0 p1 py : Pos} {scope : Scope} {cl : List (Str × Addr)} {pos spos : Pos} {Q : Flow → Shared → Prop} {ax : Addr} {its : Array Value} {news : List (Addr × Obj)}
    (J : Nat → Nat → List Value → List (Addr × Obj) → Prop) (cnt : Nat → Nat)
    (F : Fr h₀ L s.heap m) (N : News h₀ L s.heap news) (hLe : env.locals = L) (hh : A.handled = none)
    (hsw : swapsWith (.ListComp elt [⟨.Name x0 p0, i0, [], 0⟩, ⟨.Name x1 p1, i1, [], 0⟩] scope pos) (some (.Name y py)) spos.line env = pure true)
    (hclos : closureFor scope env = pure cl) (hcell : ∀ z ∈ scope.names, z.2 ≠ .cell) (hkind : scope.kind = .function)
    (hnames : ∀ z ∈ scope.names, z.2 = .local → scope.names.lookup z.1 = some .local) (hx0 : scope.names.lookup x0 = some .local) (hx1 : scope.names.lookup x1 = some .local) (hx : x0 ≠ x1)
    (hy : env.kindOf y = some .local) (hp : (env.scope.kind == .class || (env.scope.kind == .module && env.locals != env.globals)) = false)
    (hs0 : ∀ x, foldedSetIterable i0 env x = pure x) (hfold : ∀ e : Env, ∀ x, foldedSetIterable i1 e x = pure x)
    (hev : ∀ Q' : Value → Shared → Prop, Q' (.ref ax) s → wpAny (model prog w) A (eval i0 env) Q' E s)
    (S : SrcAt h₀ ax its news) (hS : ∀ i j ys nw, J i j ys nw → SrcAt h₀ ax its nw) (hlen : ∀ i j ys nw, J i j ys nw → ys.length ≤ sizeLine) (hJ : J 0 0 [] news)
    (outer : ∀ i v ys nw h tk oI I C oC D m₂ (E' : Value → Shared → Prop), its[i]? = some v → J i 0 ys nw → NsObj oC m₂ → m₂ x0 = some v → Fr h₀ L h m → News h₀ L h ((I, oI) :: (C, oC) :: (D, lst ys) :: nw) → Off3 I C D nw → ((@Ne Nat I C) ∧ (@Ne Nat I D) ∧ (@Ne Nat C D)) →
      wpAny (model prog w) A (eval i1 (compEnvC scope cl C env)) (RngOut h₀ L m s ((I, oI) :: (C, oC) :: (D, lst ys) :: nw) (cnt i)) E' { s with heap := h, toks := tk })
    (inner : ∀ i v j u ys nw h tk I oI I1 oI1 C oC D m₂ (E' : Value → Shared → Prop), its[i]? = some v → j < cnt i → J i j ys nw → NsObj oC m₂ → m₂ x0 = some v → m₂ x1 = some (.int (j : Int) u) → Fr h₀ L h m →
      News h₀ L h ((I, oI) :: (I1, oI1) :: (C, oC) :: (D, lst ys) :: nw) → (∀ p ∈ nw, p.1 ≠ I ∧ p.1 ≠ I1 ∧ p.1 ≠ C ∧ p.1 ≠ D) → ((@Ne Nat I C) ∧ (@Ne Nat I D) ∧ (@Ne Nat C D) ∧ (@Ne Nat I1 I) ∧ (@Ne Nat I1 C) ∧ (@Ne Nat I1 D)) →
      wpAny (model prog w) A (eval elt (compEnvC scope cl C env)) (CEnd2 h₀ L m { s with heap := h, toks := tk } I oI I1 oI1 C oC D (lst ys) (fun y nw' => J i (j + 1) (ys ++ [y]) nw')) E' { s with heap := h, toks := tk })
    (step : ∀ i ys nw, i < its.size → J i (cnt i) ys nw → J (i + 1) 0 ys nw)
    (fin : ∀ D h tk ys nw, J its.size 0 ys nw → Fr h₀ L h (fun z => if z = y then some (.ref D) else m z) → News h₀ L h ((D, lst ys) :: nw) → Off1 D nw → Q .next { s with heap := h, toks := tk }) :
    wpAny (model prog w) A (exec (.Assign [.Name y py] (.ListComp elt [⟨.Name x0 p0, i0, [], 0⟩, ⟨.Name x1 p1, i1, [], 0⟩] scope pos) spos) env) Q E s := by
  subst hLe
  rw [exec_Assign_Name_used _ _ _ _ hsw]
  refine wpAny_bind (wpAny_standAt (wpAny_bind ?_))
  show wpAny _ A (do let _ ← comprehension (.ListComp elt [⟨.Name x0 p0, i0, [], 0⟩, ⟨.Name x1 p1, i1, [], 0⟩] scope pos) scope env _ (newList []) false (eval i0 env) (some (assign (.Name y py) env))) _ _ s
  refine wpAny_bind (wpAny_mono (wpAny_comprehension_free (use := some (assign (.Name y py) env)) (Q := fun _ s' => Q .next s') rfl hs0 hclos hkind hnames
    (hev _ ?_)) (fun _ s' hq => wpAny_pure (wpAny_pure hq)) fun _ _ e => e)
  have hl := S.list F.keep N
  have hlt : ax < s.heap.objs.size := by obtain ⟨_, e, _⟩ := hl; exact Heap.lt_size e
  refine wpAny_pyIter_list hl ?_
  have up : ∀ b o, s.heap.get? b = some o → (s.heap.push { cls := .type "list_iterator", data := .fields #[.ref ax, .int 0 0] }).get? b = some o := fun b o e => Heap.get?_push_of_some _ e
  refine block2 J cnt (Walks.list hh s.heap.objs.size ax (Nat.ne_of_lt hlt) its) (fun i h st => by obtain ⟨o, e, _⟩ := st.1; exact ⟨o, e⟩) list_st hcell hkind hx0 hx1 hx ⟨⟨_, Heap.get?_push_size _ rfl, rfl, rfl⟩, hl.push _⟩ (fun b hb => ?_)
    (F.keeps up) (N.grown up) (Nat.ne_of_lt F.ns.lt) (next_is_new F) (fun p hp => Nat.ne_of_lt (Heap.lt_size (N p hp).1)) hh hfold hS hlen hJ ?_ ?_ step ?_
  · show b < (s.heap.push _).objs.size
    rw [Heap.size_push]
    rcases List.mem_cons.mp hb with rfl | hb
    · exact Nat.lt_succ_self _
    · rw [List.mem_singleton.mp hb]; exact Nat.lt_succ_of_lt hlt
  · intro i v ys nw h tk oI C oC D m₂ E' _ hP hJ' hn hm F' N' off d
    exact outer i v ys nw h tk oI _ C oC D m₂ E' hP hJ' hn hm F' N' off d
  · intro i v j u ys nw h tk oI I1 oI1 C oC D m₂ E' _ hP hj hJ' hn hm hm1 F' N' off d
    exact inner i v j u ys nw h tk _ oI I1 oI1 C oC D m₂ E' hP hj hJ' hn hm hm1 F' N' off d
  · intro D C h' tk m' ys news' F' N' o1 hn hC₀ hD₀ hCL hDL hCD offC hJn
    show wpAny _ A (assign (.Name y py) env (.ref D)) _ _ _
    refine wpAny_assign_Name (wpAny_storeName_local hy F'.ns (fun h₂ hn₂ hs₂ => ?_) hp)
    have hL₀ : h₀.get? env.locals = none := Heap.get?_none_of_le F'.above
    have F₂ : Fr h₀ env.locals h₂ (fun z => if z = y then some (.ref D) else m z) := ⟨hn₂, fun b o e => hs₂.extBut b o (fun q => by rw [q, hL₀] at e; cases e) (F'.keep b o e), F'.above⟩
    refine ⟨m', hn.sameBut hs₂ hCL, fun h'' hs'' => fin D h'' _ ys news' hJn (F₂.change hs'' hCL hC₀) (fun p hp => ?_) o1⟩
    have z : h₂.get? p.1 = some p.2 := hs₂.extBut _ _ (N' p hp).2.1 (N' p hp).1
    refine ⟨hs''.extBut _ _ ?_ z, (N' p hp).2⟩
    rcases List.mem_cons.mp hp with rfl | hp
    · exact Ne.symm hCD
    · exact offC p hp
end
end Mine
end
section
open PySem PySem.W PyProof.Rows PySem.Calls
namespace Mine
theorem pairedGet {α β : Type} {F : α → β → Prop} {l₁ : List α} {l₂ : List β} (h : Paired F l₁ l₂) : ∀ {i : Nat} {a : α}, l₁[i]? = some a → ∃ b, l₂[i]? = some b ∧ F a b := by
  induction h with
  | nil => intro i a e; cases i <;> cases e
  | cons h _ ih =>
    intro i a e
    cases i with
    | zero => cases e; exact ⟨_, rfl, h⟩
    | succ i => exact ih e
theorem pairedMono {α β : Type} {F G : α → β → Prop} {l₁ : List α} {l₂ : List β} (h : Paired F l₁ l₂) (k : ∀ a b, F a b → G a b) : Paired G l₁ l₂ := by
  induction h with
  | nil => exact .nil
  | cons h _ ih => exact .cons (k _ _ h) ih
def insAt (t : Int) (o : List Int) : List (List Int) := (List.range (o.length + 1)).map fun k => o.take k ++ [t] ++ o.drop k
def ordersN (ns : List Int) : List (List Int) := ns.foldl (fun os t => os.flatMap (insAt t)) [[]]
def flatN (lls : List (List Int)) (x : Int) (i j : Nat) : List (List Int) := (lls.take i).flatMap (insAt x) ++ (List.range j).map fun k => (lls.getD i []).take k ++ [x] ++ (lls.getD i []).drop k
theorem insAt_len {t : Int} {o o' : List Int} (h : o' ∈ insAt t o) : o'.length = o.length + 1 := by
  simp only [insAt, List.mem_map, List.mem_range] at h
  obtain ⟨k, hk, rfl⟩ := h
  simp only [List.length_append, List.length_take, List.length_drop, List.length_cons, List.length_nil]
  omega
theorem fold_len : ∀ (ns : List Int) (os : List (List Int)) (k : Nat), (∀ o ∈ os, o.length = k) → ∀ o ∈ ns.foldl (fun os t => os.flatMap (insAt t)) os, o.length = k + ns.length
  | [], _, _, h, o, ho => h o ho
  | t :: r, os, k, h, o, ho => by
    have := fold_len r (os.flatMap (insAt t)) (k + 1) (fun o' h' => by
      obtain ⟨a, ha, hb⟩ := List.mem_flatMap.mp h'
      rw [insAt_len hb, h a ha]) o ho
    simp only [List.length_cons]; omega
theorem orders_len {ns o : List Int} (h : o ∈ ordersN ns) : o.length = ns.length := by
  have := fold_len ns [[]] 0 (fun o ho => by rw [List.mem_singleton.mp ho]; rfl) o h
  omega
theorem orders_snoc (ns : List Int) (t : Int) : ordersN (ns ++ [t]) = (ordersN ns).flatMap (insAt t) := by
  simp [ordersN, List.foldl_append]
theorem flatMap_eq {x : Int} {n : Nat} : ∀ {l : List (List Int)}, (∀ o ∈ l, o.length = n) → (l.flatMap (insAt x)).length = (n + 1) * l.length
  | [], _ => rfl
  | o :: r, h => by
    have ih := flatMap_eq (x := x) (n := n) (l := r) fun o' h' => h o' (.tail _ h')
    have h1 := h o (.head _)
    simp only [List.flatMap_cons, List.length_append, List.length_cons, insAt, List.length_map, List.length_range, Nat.mul_succ] at ih ⊢
    omega
def cntN : Nat → List Int → Nat
  | _, [] => 1
  | k, _ :: r => (k + 1) * cntN (k + 1) r
theorem fold_cnt : ∀ (ns : List Int) (os : List (List Int)) (k : Nat), (∀ o ∈ os, o.length = k) → (ns.foldl (fun os t => os.flatMap (insAt t)) os).length = cntN k ns * os.length
  | [], os, _, h => by simp [cntN]
  | t :: r, os, k, h => by
    have := fold_cnt r (os.flatMap (insAt t)) (k + 1) (fun o' h' => by
      obtain ⟨a, ha, hb⟩ := List.mem_flatMap.mp h'
      rw [insAt_len hb, h a ha])
    rw [List.foldl_cons, this, flatMap_eq h, cntN, ← Nat.mul_assoc, Nat.mul_comm (cntN (k + 1) r)]
theorem orders_cnt (ns : List Int) : (ordersN ns).length = cntN 0 ns := by
  have := fold_cnt ns [[]] 0 (fun o ho => by rw [List.mem_singleton.mp ho]; rfl)
  simpa [ordersN] using this
theorem orders_le {ns : List Int} (h : ns.length ≤ 5) : (ordersN ns).length ≤ 120 := by
  rw [orders_cnt]
  rcases ns with _ | ⟨a, _ | ⟨b, _ | ⟨c, _ | ⟨d, _ | ⟨e, _ | ⟨f, r⟩⟩⟩⟩⟩⟩
  · decide
  · show (0 + 1) * 1 ≤ 120; decide
  · show (0 + 1) * ((1 + 1) * 1) ≤ 120; decide
  · show (0 + 1) * ((1 + 1) * ((2 + 1) * 1)) ≤ 120; decide
  · show (0 + 1) * ((1 + 1) * ((2 + 1) * ((3 + 1) * 1))) ≤ 120; decide
  · show (0 + 1) * ((1 + 1) * ((2 + 1) * ((3 + 1) * ((4 + 1) * 1)))) ≤ 120; decide
  · simp only [List.length_cons] at h; omega
theorem flatMap_le {x : Int} {n : Nat} : ∀ {l : List (List Int)}, (∀ o ∈ l, o.length ≤ n) → (l.flatMap (insAt x)).length ≤ (n + 1) * l.length
  | [], _ => Nat.zero_le _
  | o :: r, h => by
    have ih := flatMap_le (x := x) (n := n) (l := r) fun o' h' => h o' (.tail _ h')
    have h1 := h o (.head _)
    simp only [List.flatMap_cons, List.length_append, List.length_cons, insAt, List.length_map, List.length_range, Nat.mul_succ] at ih ⊢
    omega
theorem flatN_le {lls : List (List Int)} {x : Int} {i j n : Nat} (h : ∀ o ∈ lls, o.length ≤ n) (hj : j ≤ n + 1) : (flatN lls x i j).length ≤ (n + 1) * (lls.length + 1) := by
  have h1 := flatMap_le (x := x) (n := n) (l := lls.take i) fun o ho => h o (List.mem_of_mem_take ho)
  have h2 : (n + 1) * (lls.take i).length ≤ (n + 1) * lls.length := Nat.mul_le_mul_left _ (List.length_take_le' _ _)
  simp only [flatN, List.length_append, List.length_map, List.length_range]
  rw [Nat.mul_succ]; omega
theorem flatN_step {lls : List (List Int)} {x : Int} {i : Nat} (h : i < lls.length) : flatN lls x i ((lls.getD i []).length + 1) = flatN lls x (i + 1) 0 := by
  have e : lls.take (i + 1) = lls.take i ++ [lls.getD i []] := by
    rw [List.take_add_one, List.getElem?_eq_getElem h]; simp [List.getD, List.getElem?_eq_getElem h]
  rw [flatN, flatN, e]
  simp [List.flatMap_append, insAt]
theorem flatN_zero (lls : List (List Int)) (x : Int) : flatN lls x 0 0 = [] := rfl
theorem flatN_succ (lls : List (List Int)) (x : Int) (i j : Nat) : flatN lls x i (j + 1) = flatN lls x i j ++ [(lls.getD i []).take j ++ [x] ++ (lls.getD i []).drop j] := by
  simp [flatN, List.range_succ]
theorem flatN_all (lls : List (List Int)) (x : Int) : flatN lls x lls.length 0 = lls.flatMap (insAt x) := by simp [flatN]
end Mine
end
section
open PySem PySem.W PyProof.Rows PySem.Calls
set_option maxRecDepth 100000
namespace Mine
section
variable {prog : Program} {w : World} {A₀ : Around} {E : Value → Shared → Prop} {s' : Shared} {h₀ h : Heap} {outer : List Env} {L a e t : Addr} {m : Str → Option Value} {name : Str} {scope : Scope} {cd : Value} {cl : List (Str × Addr)}
  {vs : List Value} {n : Str} {b₀ : Stmt} {suite : List Stmt} {pos np : Pos} {rest : List ExceptHandler} {Q : Flow → Shared → Prop} {news : List (Addr × Obj)}
  {p : Program} {loose : List Str} {mean : ExcName → Option Value} {mg mb : Str → Option Value} {x : Str} {X T' : String} {Kf : Frag}
/-- an exception caught in a frame with cells of its own -/
theorem caught_KBX (K : Below A₀ h₀ outer h₀) (F : Fr h₀ L h m) (hsm : h.UpToSlots s'.heap) (R : RaisedK h₀ (envX name scope L a cd cl :: outer) e (.type X) t vs news s'.heap)
    (T : TopRead p loose mg mb h₀) (XK : Kf.In h₀) (ek : nsIn Kf mainGlobals x = some none) (hv : bootBuiltins x = some (.type T'))
    (hexc : isSubtype (.type T') (.type "BaseException") = pure true) (hnt : isSubtype (.type ((Manifest.find? T').elim "type" fun y => y.metatype)) (.type "tuple") = pure false) (hsub : isSubtype (.type X) (.type T') = pure true)
    (k : ∀ h' news₂ tk, Fr h₀ L h' (fun y => if y = n then some (.ref e) else m y) → News h₀ L h' news₂ → Got news₂ e t (.type X) vs → News h₀ L h' news →
      wpAny (model prog w) ((A₀.deeper (envX name scope L a cd cl)).mark (some (.ref e))) (execs (b₀ :: suite) (envX name scope L a cd cl))
        (fun f s₄ => wpAny (model prog w) (A₀.deeper (envX name scope L a cd cl)) (do bindName (envX name scope L a cd cl) n .none; unbindBehindTheSuite (envX name scope L a cd cl) n pos) (fun _ s₅ => Q f s₅) E s₄)
        (AsSuiteRaised (model prog w) ((A₀.deeper (envX name scope L a cd cl)).mark (some (.ref e))) (envX name scope L a cd cl) n pos (notedBy (model prog w) ((A₀.deeper (envX name scope L a cd cl)).mark (some (.ref e))) (envX name scope L a cd cl) (cameBackBy (model prog w) (A₀.deeper (envX name scope L a cd cl)) (envX name scope L a cd cl) E)))
        { s' with heap := h', toks := tk })
    (hn : x ≠ "__name__" := by decide +kernel)
    (hk : scope.kind = .function := by rfl) (hlo : (envX name scope L a cd cl).kindOf n = some .local := by rfl) (hx : (envX name scope L a cd cl).kindOf x = some .globalImplicit := by rfl) (hd : (x == ("__debug__" : Str)) = false := by decide) :
    wpAny (model prog w) (A₀.deeper (envX name scope L a cd cl)) (noteFrame (.ref e) (envX name scope L a cd cl))
      (fun _ s₂ => wpAny (model prog w) (A₀.deeper (envX name scope L a cd cl)) (setFlight (.ref e) none) (fun _ s₃ =>
        wpAny (model prog w) (A₀.deeper (envX name scope L a cd cl)) (handleBy (.ref e) (envX name scope L a cd cl) (.ExceptHandler (some (.Name x np)) (some n) (b₀ :: suite) pos :: rest)) Q E s₃) E s₂) E s' := by
  obtain ⟨⟨B, hB, hl, hfl, hnew⟩, htup⟩ := R
  have hL : B.get? L = none := by
    obtain ⟨_, ⟨L', _, hf, hn', _⟩, _⟩ := hfl.2.2.1
    obtain rfl : L = L' := Option.some.inj hf
    exact hn'
  refine wpAny_looks_onW (Around.frames_deeper K.stack) rfl hfl fun h₄ hheld₄ hsm₄ => ?_
  refine wpAny_landsW hheld₄ fun h₅ hheld hsm₅' => ?_
  have hsm₅ := hsm₄.trans hsm₅'
  have hheld' := flyingW_base hB hheld
  have F₅ := F.of_stays hheld'.1 (hsm.trans hsm₅)
  obtain ⟨ob, hob, hobc⟩ := hheld'.there
  refine wpAny_handleBy_builtin_as (X := X) (T := T') (b := true) hexc hnt hsub (nameX_B F₅ XK T ek hv hn ⟨rfl, ⟨ob, hob, hobc⟩, ?_⟩ hk hx hd)
  refine lands_againW hheld fun h₆ hfl₆ hsm₆ => ?_
  have hfl₆' := flyingW_base hB hfl₆
  have F₆ := F.of_stays hfl₆'.1 ((hsm.trans hsm₅).trans hsm₆)
  obtain ⟨oe, ws, hoe, hoec, hoed, hoe0⟩ := hfl₆'.first
  obtain ⟨ot, nt, hot, hotc, hotd⟩ := (htup.of_slots hsm₅).of_slots hsm₆
  have N₆ := News.more F₆ (News.more F₆ News.nil hot (fun es n q => by rw [hotd] at q; cases q) (fresh_of_stays hB hnew)) hoe (fun es n q => by rw [hoed] at q; cases q) hfl₆'.2.1
  have Nl : News h₀ L h₆ news := fun q hq => ⟨hfl₆.1 _ _ (hl q hq).1, (fun z => by have := (hl q hq).1; rw [z, hL] at this; cases this), (hl q hq).2⟩
  refine storeX_L F₆ (news := _ ++ news) (fun q hq => (List.mem_append.mp hq).elim (N₆ q) (Nl q)) (fun h₇ F₇ N₇ => ?_) hk hlo
  exact k h₇ _ _ F₇ (fun q hq => N₇ q (List.mem_append_left _ hq)) ⟨oe, ot, ws, nt, .head _, .tail _ (.head _), hoec, hoed, hoe0, hotc, hotd⟩ fun q hq => N₇ q (List.mem_append_right _ hq)
end
theorem name_goes_X {M : Model} {A : Around} {E : Value → Shared → Prop} {s : Shared} {name : Str} {scope : Scope} {L a : Addr} {cd : Value} {cl : List (Str × Addr)} {h₀ : Heap} {m : Str → Option Value} {news : List (Addr × Obj)} {n : Str} {pos : Pos} {Q : Unit → Shared → Prop} (F : Fr h₀ L s.heap m) (N : News h₀ L s.heap news)
    (h : ∀ h' v, Fr h₀ L h' (fun x => if x = n then v else m x) → News h₀ L h' news → Q () { s with heap := h', toks := s.toks + 1 })
    (hk : scope.kind = .function := by rfl) (hl : (envX name scope L a cd cl).kindOf n = some .local := by rfl) :
    wpAny M A (do bindName (envX name scope L a cd cl) n .none; unbindBehindTheSuite (envX name scope L a cd cl) n pos) Q E s :=
  wpAny_nameGoes_keeps hl F.ns (by show (scope.kind == .class || (scope.kind == .module && L != mainGlobals)) = false; rw [hk]; rfl) fun h' v hn hs => h h' v (F.set hn hs) (N.set hs)
theorem got_join {h₀ h : Heap} {L e t : Addr} {nA nw : List (Addr × Obj)} {cls : Value} {vs : List Value} (NA : News h₀ L h nA) (G : Got nA e t cls vs) (NB : News h₀ L h nw) :
    ∃ oe ot, News h₀ L h ((t, ot) :: (e, oe) :: nw) ∧ Got ((t, ot) :: (e, oe) :: nw) e t cls vs := by
  obtain ⟨oe, ot, ws, nt, g1, g2, g3⟩ := G
  refine ⟨oe, ot, fun p hp => ?_, oe, ot, ws, nt, .tail _ (.head _), .head _, g3⟩
  rcases List.mem_cons.mp hp with rfl | hp
  · exact NA _ g2
  · rcases List.mem_cons.mp hp with rfl | hp
    · exact NA _ g1
    · exact NB _ hp
theorem got_off {h₀ h : Heap} {L e t x : Addr} {o : Obj} {nw : List (Addr × Obj)} {X : String} {vs : List Value} (N : News h₀ L h nw) (G : Got nw e t (.type X) vs) (hm : (x, o) ∈ nw) (hc : o.cls = .type "list") (hX : X ≠ "list") : @Ne Nat t x ∧ @Ne Nat e x := by
  obtain ⟨oe, ot, ws, nt, g1, g2, g3, g4, g5, g6, g7⟩ := G
  constructor
  · intro h
    have q : t = x := h
    subst q
    have e1 : o = ot := Option.some.inj ((N _ hm).1.symm.trans (N _ g2).1)
    rw [e1, g6] at hc
    injection hc with hc
    exact absurd hc (by decide)
  · intro h
    have q : e = x := h
    subst q
    have e1 : o = oe := Option.some.inj ((N _ hm).1.symm.trans (N _ g1).1)
    rw [e1, g3] at hc
    injection hc with hc
    exact hX hc
end Mine
end
section
open PySem PySem.W PyProof.Rows PySem.Calls
set_option maxRecDepth 100000
set_option maxHeartbeats 8000000
set_option rowWalk.seconds 0
namespace Mine
local macro_rules | `(tactic| k_room) => `(tactic| ((try simp only [depth_under_make, depth_under_kw, depth_in1, depth_deeper, depth_caller]); first | decide | omega | (simp only [recursionLimit] at *; omega)))
local macro_rules | `(tactic| k_steps) => `(tactic| repeat' (first | (k_unfold; (try dsimp only)) | (k_end; wrow_close) | ((fail_if_success (with_reducible show wpAny _ _ (pyIter _) _ _ _)); walk1) | ((fail_if_success (with_reducible show wpAny _ _ (pyIter _) _ _ _)); dsimp only; walk1) | (leave1; walk_say "STEP leave1"; try dsimp only) | fail "no step"))
local macro_rules | `(tactic| walk_at "mem tail") => `(tactic| (intro p hp; repeat (first | exact hp | refine List.Mem.tail _ ?_)))
local macro_rules | `(tactic| walk_at "mem all") => `(tactic| repeat' (first | exact List.forall_mem_nil _ | (refine List.forall_mem_cons.mpr ⟨?_, ?_⟩) | k_mem | walk_at "mem tail"))
local macro_rules | `(tactic| walk_at "off all") => `(tactic| repeat' (first | exact List.forall_mem_nil _ | (refine List.forall_mem_cons.mpr ⟨?_, ?_⟩) | k_ne))
local macro_rules | `(tactic| k_all) => `(tactic| assumption)
def OrdRel (nw : List (Addr × Obj)) (v : Value) (ll : List Int) : Prop := ∃ a its c, v = .ref a ∧ (a, W.listOf its c) ∈ nw ∧ IntsAre its.toList ll
section
variable {w : World} {A A₀ : Around} {E : Value → Shared → Prop} {s : Shared} {L : Addr} {h₀ base : Heap} {m mg mb : Str → Option Value} {news : List (Addr × Obj)} {p : Program} {loose : List Str} {mean : ExcName → Option Value} {Q : Value → Shared → Prop} {env : Env} {outer : List Env}

def J2 (lls : List (List Int)) (x : Int) (cA I : Addr) (bs : List (Addr × Obj)) (i j : Nat) (ys : List Value) (nw : List (Addr × Obj)) : Prop :=
  ∃ fresh, nw = fresh ++ bs ∧ (∀ p ∈ fresh, p.1 ≠ cA ∧ p.1 ≠ I) ∧ Paired (OrdRel fresh) ys (flatN lls x i j) ∧ j ≤ (lls.getD i []).length + 1 ∧ i ≤ lls.length
theorem nmO {o : Obj} {d : Data} (_ : o.data = d) {P : Prop} (k : ∀ o', o' = o → P) : P := k o rfl
theorem getD_len {lls : List (List Int)} {n : Nat} (h : ∀ o ∈ lls, o.length ≤ n) (i : Nat) : (lls.getD i []).length ≤ n := by
  simp only [List.getD]
  cases e : lls[i]? with
  | none => exact Nat.zero_le _
  | some o => exact h o (List.mem_of_getElem? e)
theorem rng_size (n : Nat) : Builtin.Range.rangeSize 0 ((n : Int) + 1) 1 = ((n + 1 : Nat) : Int) := by
  simp [Builtin.Range.rangeSize]
theorem rng_small {n : Nat} (h : n ≤ 5) : Builtin.Range.small 0 ((n : Int) + 1) 1 = true := by
  have : n = 0 ∨ n = 1 ∨ n = 2 ∨ n = 3 ∨ n = 4 ∨ n = 5 := by omega
  rcases this with h | h | h | h | h | h <;> subst h <;> decide
theorem off1_mem {D : Addr} : ∀ {l : List (Addr × Obj)}, LCg.Off1 D l → ∀ p ∈ l, p.1 ≠ D
  | [], _, _, h => nomatch h
  | _ :: _, x, p, h => by
    rcases List.mem_cons.mp h with rfl | h
    · exact x.1
    · exact off1_mem x.2 p h
theorem take_snoc {ns : List Int} {i : Nat} {x : Int} (h : ns[i]? = some x) : ns.take (i + 1) = ns.take i ++ [x] := by
  rw [List.take_add_one, h]; rfl
theorem nw_swap {h : Heap} {L : Addr} {a b c : Addr × Obj} {r : List (Addr × Obj)} (N : News h₀ L h (a :: b :: c :: r)) : News h₀ L h (c :: a :: b :: r) := news_sub N fun p hp => by
  simp only [List.mem_cons] at hp ⊢
  rcases hp with h | h | h | h <;> simp [h]
theorem orders_call (B : Below A₀ base outer h₀) (F : Fr h₀ L s.heap m) (X : (hd.heap_39 w.params).In h₀) (N : News h₀ L s.heap news) (T : Top p loose mean mg mb h₀) (hA : A.frames = some (env :: outer)) (hf : env.frame = some L) (hke : env.scope.kind = .function)
  (hroom : A.depth + 10 < recursionLimit) (hh : A.handled = none) (hu : A.units + 10 < cLine) {l : Addr} {its : Array Value} {c : Nat} {ns : List Int} (hm : (l, W.listOf its c) ∈ news) (hi : IntsAre its.toList ns) (hn : ns.length = 5)
  (hok : ∀ h' tk D refs cD nw', Fr h₀ L h' m → News h₀ L h' nw' → (∀ p ∈ news, p ∈ nw') → (D, W.listOf refs cD) ∈ nw' → Paired (OrdRel nw') refs.toList (ordersN ns) → Q (.ref D) { s with heap := h', toks := tk }) :
  wpAny (model PySem.Challenge.rw_km0086_02.row.prog w) A (call (.ref 44) [.ref l]) Q E s := by
  refine wpAny_call ?_
  refine' code_defC B F X N T hA hf hke ?k6 ?k7 ?k8 ?k9 ?kB ?kD ?_ ?c2 ?c3 ?c4
  case k6 => k_is
  case k7 => k_is
  case k8 => k_room
  case k9 => exact BindsTo.of_eq rfl
  case kB => exact rfl
  case kD => decide +kernel
  case c2 => exact rfl
  case c3 => exact rfl
  case c4 => exact rfl
  intro g' L' h' tk' cells' FG' F' N' Y' B' X' T' l1
  k_cells Y'
  simp only [List.cons_append, List.nil_append] at N'
  (try dsimp only)
  k_steps
  rename News _ _ _ _ => N1
  rename Fr _ _ _ _ => F1
  refine For_invT g' ?_ (by intro _; rfl)
  k_steps
  refine nmF F1 ?_
  intro m₀ em
  refine nm3 N1 ?_
  intro D0 l0 cA e1 e2 e3
  subst e1 e2
  refine j_listT (l := l) (items := its) (c := c) (fun i m nw => ∃ (D : Addr) (refs : Array Value) (cD : Nat) (oc : Obj) (cv : Option Value) (rest : List (Addr × Obj)), nw = (cA, oc) :: rest ∧ (∀ p ∈ rest, p.1 ≠ cA) ∧ m = (fun z => if z = ("orders" : Str) then some (.ref D) else m₀ z) ∧ (D, W.listOf refs cD) ∈ rest ∧ Paired (OrdRel rest) refs.toList (ordersN (ns.take i)) ∧
     oc.data = .cell cv ∧ (∀ p ∈ news, p ∈ rest)) hh (fun i m nw ⟨_, _, _, _, _, _, e, _, _, _, _, _, q⟩ => e ▸ .tail _ (q _ hm)) F1 (nw_swap N1) ?_ ?_ ?_
  · rename Obj.data _ = _ => d1
    subst em e3
    refine ⟨D0, _, _, _, _, _, rfl, ?_, (funext fun z => ?_), .head _, ?_, d1, fun p hp => .tail _ (.tail _ hp)⟩
    · have q0 := news_lt N1
      simp only [AllLt] at q0
      intro p hp
      rcases List.mem_cons.mp hp with rfl | hp
      · k_ne
      · rcases List.mem_cons.mp hp with rfl | hp
        · k_ne
        · exact Nat.ne_of_lt (Nat.lt_succ_of_lt (l1 p hp))
    · by_cases hz : z = ("orders" : Str)
      · simp only [hz, if_true]
      · simp only [if_neg hz]
    · exact Paired.cons ⟨l0, _, _, rfl, .tail _ (.head _), .nil⟩ .nil
  · rintro i v m₁ nw s₁ I oI hi' hv ⟨D, refs, cD, oc, cv, rest, rfl, hcA, rfl, hD, hP, hcv, hsub⟩ hoff F2 N2
    obtain ⟨x, tx, rfl, hx⟩ := hi.at i v (by simpa using hv)
    subst em e3
    have hIc : @Ne Nat I (L' + 1) := fun e => hoff _ (.head _) e.symm
    dsimp only [envOfC] at F2 N2
    clear F1 N1
    have hIr : ∀ p ∈ rest, p.1 ≠ I := fun p hp => hoff p (.tail _ hp)
    obtain ⟨h1, gg, dd, tk, oo⟩ := s₁
    k_steps
    rename News _ _ _ _ => N4
    rename Fr _ _ _ _ => F4
    rename Obj.data _ = Data.cell (some _) => d4
    refine nm2 N4 ?_
    intro I' cA' e1 e2
    clear e1 e2 I' cA'
    refine nmO d4 ?_
    intro oc' e1
    subst e1
    have hlen5 : ∀ o ∈ ordersN (ns.take i), o.length ≤ 5 := fun o ho => by rw [orders_len ho, List.length_take]; omega
    have hcnt : (ordersN (ns.take i)).length ≤ 120 := orders_le (by rw [List.length_take]; omega)
    refine Assign_ListComp2 (ax := D) (its := refs) (fun i2 j ys nw => J2 (ordersN (ns.take i)) x (L' + 1) I ((I, oI) :: (L' + 1, oc') :: rest) i2 j ys nw) (fun i2 => ((ordersN (ns.take i)).getD i2 []).length + 1)
      F4 N4 rfl hh (by with_unfolding_all rfl) (by with_unfolding_all rfl) (by decide) (by rfl) (by decide) (by rfl) (by rfl) (by decide) (by rfl) (by rfl) (by intro _; rfl) (by intro _ _; rfl) ?_ ?_ ?_ ?_ ?_ ?_ ?_ ?_ ?_
    · intro Q' hq
      walk1
      exact hq
    · exact .inr ⟨_, .tail _ (.tail _ hD), rfl, _, rfl⟩
    · rintro i2 j ys nw ⟨fresh, rfl, _⟩
      exact .inr ⟨_, List.mem_append_right _ (.tail _ (.tail _ hD)), rfl, _, rfl⟩
    · rintro i2 j ys nw ⟨fresh, rfl, hfr, hPf, hj, hi2⟩
      rw [hPf.length]
      exact Nat.le_trans (flatN_le hlen5 (Nat.le_trans hj (Nat.succ_le_succ (getD_len hlen5 i2)))) (Nat.le_trans (Nat.mul_le_mul_left _ (Nat.succ_le_succ hcnt)) (by rw [sizeLine_eq]; decide))
    · exact ⟨[], rfl, (fun _ h => nomatch h), Paired.nil, Nat.zero_le _, Nat.zero_le _⟩
    · intro i2 v ys nw h tk oI2 I2 C oC D2 m₂ E' hv2 hJ2 hC hm2 F5 N5 off5 dist5
      obtain ⟨fresh, rfl, hfr, hPf, hj, hi2⟩ := hJ2
      obtain ⟨o, ho, a, oits, co, rfl, ha, hio⟩ := pairedGet hP (show refs.toList[i2]? = some v by simpa using hv2)
      have N6 := news_cons N5 (x := (a, W.listOf oits co)) (.tail _ (.tail _ (.tail _ (List.mem_append_right _ (.tail _ (.tail _ ha))))))
      have hol : oits.size = o.length := (by have := hio.length; simpa using this)
      have hol5 : o.length ≤ 5 := hlen5 o (List.mem_of_getElem? ho)
      have eo : (ordersN (ns.take i)).getD i2 [] = o := by simp [List.getD, ho]
      k_steps
      rename IsRange _ _ _ _ _ _ _ _ => R7
      rename Fr _ _ _ _ => F7
      rename News _ _ _ _ => N7
      rw [eo]
      refine ⟨_, _, _, _, _, _, _, rfl, rfl, F7, news_sub N7 (fun p hp => .tail _ hp), R7, ?_, ?_⟩
      · exact rng_small hol5
      · exact rng_size o.length
    · intro i2 v j u ys nw h tk I2 oI2 I1 oI1 C oC D2 m₂ E' hv2 hjl hJ2 hC hm2 hm1 F5 N5 off5 dist5
      obtain ⟨fresh, rfl, hfr, hPf, hj, hi2⟩ := hJ2
      obtain ⟨o, ho, a, oits, co, rfl, ha, hio⟩ := pairedGet hP (show refs.toList[i2]? = some v by simpa using hv2)
      have N6 := news_cons N5 (x := (a, W.listOf oits co)) (.tail _ (.tail _ (.tail _ (.tail _ (List.mem_append_right _ (.tail _ (.tail _ ha)))))))
      have N7 := news_cons N6 (x := (L' + 1, oc')) (.tail _ (.tail _ (.tail _ (.tail _ (.tail _ (List.mem_append_right _ (.tail _ (.head _))))))))
      have N8 := news_cons N7 (x := (I, oI)) (.tail _ (.tail _ (.tail _ (.tail _ (.tail _ (.tail _ (List.mem_append_right _ (.head _))))))))
      have hol : oits.size = o.length := (by have := hio.length; simpa using this)
      have hol5 : o.length ≤ 5 := hlen5 o (List.mem_of_getElem? ho)
      have eo : (ordersN (ns.take i)).getD i2 [] = o := by simp [List.getD, ho]
      rw [eo] at hjl
      clear N5 N6 N7
      k_steps
      rename Fr _ _ _ _ => F8
      rename News _ _ _ _ => N8
      rename IntsAre _ (_ ++ _ ++ _) => hI8
      refine nm1o N8 ?_
      intro Dn on e1 e2
      subst e1
      rw [← e2] at N8
      have q1 : (@Ne Nat Dn (L' + 1) ∧ @Ne Nat Dn I) := by omega
      have q2 : (@Ne Nat Dn I2 ∧ @Ne Nat Dn I1 ∧ @Ne Nat Dn C ∧ @Ne Nat Dn D2) := by omega
      refine CEnd2.intro F8 N8 ((Dn, on) :: (fresh ++ (I, oI) :: (L' + 1, oc') :: rest)) ?_ ?_ ⟨(Dn, on) :: fresh, rfl, ?_, ?_, ?_, hi2⟩
      · walk_at "mem all"
      · exact List.forall_mem_cons.mpr ⟨q2, off5⟩
      · exact List.forall_mem_cons.mpr ⟨q1, hfr⟩
      · rw [flatN_succ, eo]
        refine Paired.snoc (pairedMono hPf fun v ll ⟨a, its, c, e, hm, hi⟩ => ⟨a, its, c, e, .tail _ hm, hi⟩) ⟨Dn, _, _, rfl, (by rw [e2]; exact .head _), ?_⟩
        simpa using hI8
      · rw [eo]; omega
    · rintro i2 ys nw hi2 ⟨fresh, rfl, hfr, hPf, hj, _⟩
      have hl2 : i2 < (ordersN (ns.take i)).length := by have := hP.length; simp at this; omega
      exact ⟨fresh, rfl, hfr, by rw [← flatN_step hl2]; exact hPf, Nat.zero_le _, hl2⟩
    · rintro D9 h9 tk9 ys nw ⟨fresh, rfl, hfr, hPf, hj, hi2⟩ F9 N9 o9
      dsimp only
      refine wpAny_execs_nil ?_
      have hl9 : refs.size = (ordersN (ns.take i)).length := by have := hP.length; simpa using this
      rw [hl9, flatN_all, ← orders_snoc, ← take_snoc hx] at hPf
      have hD9 : ∀ p ∈ fresh ++ (I, oI) :: (L' + 1, oc') :: rest, p.1 ≠ D9 := off1_mem o9
      refine ⟨rfl, JEnd.intro ((L' + 1, oc') :: (D9, LCg.lst ys) :: (fresh ++ rest)) F9 N9 ?_ ?_ ?_ ⟨D9, ys.toArray, ys.length, oc', _, _, rfl, ?_, ?_, .head _, ?_, d4, ?_⟩⟩
      · exact .tail _ (List.mem_append_right _ (.head _))
      · refine List.forall_mem_cons.mpr ⟨.tail _ (List.mem_append_right _ (.tail _ (.head _))), List.forall_mem_cons.mpr ⟨.head _, fun p hp => .tail _ ?_⟩⟩
        rcases List.mem_append.mp hp with h | h
        · exact List.mem_append_left _ h
        · exact List.mem_append_right _ (.tail _ (.tail _ h))
      · refine List.forall_mem_cons.mpr ⟨fun e => hIc e.symm, List.forall_mem_cons.mpr ⟨fun e => hD9 (I, oI) (List.mem_append_right _ (.head _)) e.symm, fun p hp => ?_⟩⟩
        rcases List.mem_append.mp hp with h | h
        · exact (hfr p h).2
        · exact hIr p h
      · refine List.forall_mem_cons.mpr ⟨fun e => hD9 (L' + 1, oc') (List.mem_append_right _ (.tail _ (.head _))) e.symm, fun p hp => ?_⟩
        rcases List.mem_append.mp hp with h | h
        · exact (hfr p h).1
        · exact hcA p h
      · funext z
        by_cases hz : z = ("orders" : Str)
        · simp only [hz, if_true]
        · simp only [if_neg hz]
          rfl
      · show Paired _ ys _
        exact pairedMono hPf fun v ll ⟨a, its, c, e, hm, hi⟩ => ⟨a, its, c, e, .tail _ (List.mem_append_left _ hm), hi⟩
      · exact fun p hp => .tail _ (List.mem_append_right _ (hsub p hp))
  · rintro m' nw h tk ⟨D, refs, cD, oc, cv, rest, rfl, hcA, rfl, hD, hP, hcv, hsub⟩ F2 N2
    have e5 : ns.take its.size = ns := by
      have := hi.length
      rw [List.take_of_length_le]; simp at this; omega
    rw [e5] at hP
    clear F1 N1
    dsimp only [envOfC] at F2 N2
    (try dsimp only)
    k_steps
    (with_reducible rename Fr h₀ L _ m => F3)
    (with_reducible rename News h₀ L _ _ => N3)
    exact hok _ _ D refs cD rest F3 (news_sub N3 fun p hp => .tail _ hp) hsub hD hP
end
end Mine
end
section
open PySem PySem.W PyProof.Rows PySem.Calls
set_option maxRecDepth 100000
set_option maxHeartbeats 8000000
set_option rowWalk.seconds 0
namespace Mine
local macro_rules | `(tactic| k_room) => `(tactic| ((try simp only [depth_under_make, depth_under_kw, depth_in1, depth_deeper, depth_caller]); first | decide | omega | (simp only [recursionLimit] at *; omega)))
local macro_rules | `(tactic| walk_at "call builtin:_operator.index") => `(tactic| refine call_index_int ?_)
local macro_rules | `(tactic| walk_at "exec Raise some none") => `(tactic| (k_here; (with_reducible show wpAny _ _ (exec (Stmt.Raise (some (Expr.Call (Expr.Name ("ValueError" : Str) _) (_ :: _) [] _)) none _) _) _ _ _); (with_reducible rename Fr _ _ _ _ => kF); k_dflt (refine' Raise_madeB PySem.F.excCall_ValueError PySem.F.excRaise_ValueError ?hh ?_; (case hh => first | rfl | assumption); (refine' name_B kF ?k1 ?k2 ?k3 ?k4 ?k5 ?_; (case k1 => k_asm); (case k2 => k_asm); (case k3 => k_is); (case k4 => boot_by_name); (case k5 => decide); k_whole; refine ⟨rfl, ?_⟩))))
local macro_rules | `(tactic| walk_at "mem tail") => `(tactic| (intro p hp; repeat (first | exact hp | refine List.Mem.tail _ ?_)))
section
variable {w : World} {A A₀ : Around} {E : Value → Shared → Prop} {s : Shared} {L : Addr} {h₀ base : Heap} {m mg mb : Str → Option Value} {news : List (Addr × Obj)} {p : Program} {loose : List Str} {mean : ExcName → Option Value} {Q : Value → Shared → Prop} {env : Env} {outer : List Env}

def w5 : List Str := ["hour must be in 0..23", "minute must be in 0..59", "second must be in 0..59", "microsecond must be in 0..999999", "fold must be either 0 or 1"]
/-- the place at which five numbers are refused; 5: taken -/
def bad5 (a b c d e : Int) : Nat := if ¬ (0 ≤ a ∧ a ≤ 23) then 0 else if ¬ (0 ≤ b ∧ b ≤ 59) then 1 else if ¬ (0 ≤ c ∧ c ≤ 59) then 2 else if ¬ (0 ≤ d ∧ d ≤ 999999) then 3 else if ¬ (e = 0 ∨ e = 1) then 4 else 5

theorem raisedK_sub {base h : Heap} {l : List Env} {e t : Addr} {cls : Value} {vs : List Value} {nw nw' : List (Addr × Obj)} (R : RaisedK base l e cls t vs nw h) (hs : ∀ p ∈ nw', p ∈ nw) : RaisedK base l e cls t vs nw' h :=
  ⟨let ⟨B, a, b, c⟩ := R.1; ⟨B, a, fun q hq => b q (hs q hq), c⟩, R.2⟩

theorem ctf (B : Below A₀ base outer h₀) (F : Fr h₀ L s.heap m) (X : (hd.heap_39 w.params).In h₀) (N : News h₀ L s.heap news) (T : Top p loose mean mg mb h₀) (hA : A.frames = some (env :: outer)) (hf : env.frame = some L) (hke : env.scope.kind = .function)
  (hroom : A.depth + 10 < recursionLimit) (hh : A.handled = none) (hu : A.units + 10 < cLine) {a b c d e : Int} {t1 t2 t3 t4 t5 : Tok}
  (hok : ∀ h' D tk, bad5 a b c d e = 5 → Fr h₀ L h' m → News h₀ L h' ((D, { cls := .type "tuple", data := .seq #[.int a t1, .int b t2, .int c t3, .int d t4, .int e t5] }) :: news) → AllLt D news → Q (.ref D) { s with heap := h', toks := tk })
  (hbad : ∀ k x g h' e' t tk tk' tx, bad5 a b c d e = k → k < 5 → [a, b, c, d, e][k]? = some x → Fr h₀ L g m → RaisedK base (env :: outer) e' (.type "ValueError") t [.str (w5.getD k "") tk', .int x tx] news h' → g.UpToSlots h' → E (.ref e') { s with heap := h', toks := tk }) :
  wpAny (model PySem.Challenge.rw_km0086_02.row.prog w) A (call (.ref 39) [.int a t1, .int b t2, .int c t3, .int d t4, .int e t5]) Q E s := by
  refine wpAny_call ?_
  refine' code_def B F X N T hA hf hke ?k6 ?k7 ?k8 ?k9 ?kB ?_ ?c2 ?c3 ?c4 ?c5
  case k6 => k_is
  case k7 => k_is
  case k8 => k_room
  case k9 => exact BindsTo.of_eq rfl
  case kB => exact locs rfl
  case c2 => exact rfl
  case c3 => exact rfl
  case c4 => exact rfl
  case c5 => decide
  intro g' L' h' FG' F' N' B' X' T'
  have hlt := fun p hp => Heap.lt_size (N' p hp).1
  (try dsimp only)
  k_steps
  · (with_reducible rename Fr h₀ L _ m => F3)
    (with_reducible rename News h₀ L _ _ => N3)
    rename (List.any _ _ = true) => hfo
    have hfo' : e = 0 ∨ e = 1 := by
      simp only [List.any_cons, List.any_nil, Bool.or_false, Bool.or_eq_true, beq_iff_eq] at hfo
      omega
    refine hok _ _ _ ?_ F3 (news_sub N3 ?_) (by first | assumption | exact And.right (by assumption))
    · unfold bad5
      repeat' split
      all_goals omega
    · exact List.forall_mem_cons.mpr ⟨.head _, fun p hp => .tail _ (.tail _ hp)⟩
  · (with_reducible rename RaisedK _ _ _ _ _ _ _ _ => R3)
    (with_reducible rename Heap.UpToSlots _ _ => U3)
    rename (List.any _ _ = false) => hfo
    have hfo' : ¬ (e = 0 ∨ e = 1) := by
      simp only [List.any_cons, List.any_nil, Bool.or_false, Bool.or_eq_false_iff, beq_eq_false_iff_ne, ne_eq] at hfo
      omega
    refine hbad 4 e _ _ _ _ _ _ _ ?_ (by decide) rfl FG' (raisedK_sub R3 ?_) U3
    · unfold bad5
      repeat' split
      all_goals omega
    · walk_at "mem tail"
  all_goals
    (with_reducible rename RaisedK _ _ _ _ _ _ _ _ => R3)
    (with_reducible rename Heap.UpToSlots _ _ => U3)
  · refine hbad 3 d _ _ _ _ _ _ _ ?_ (by decide) rfl FG' R3 U3
    unfold bad5
    repeat' split
    all_goals omega
  · refine hbad 3 d _ _ _ _ _ _ _ ?_ (by decide) rfl FG' R3 U3
    unfold bad5
    repeat' split
    all_goals omega
  · refine hbad 2 c _ _ _ _ _ _ _ ?_ (by decide) rfl FG' R3 U3
    unfold bad5
    repeat' split
    all_goals omega
  · refine hbad 2 c _ _ _ _ _ _ _ ?_ (by decide) rfl FG' R3 U3
    unfold bad5
    repeat' split
    all_goals omega
  · refine hbad 1 b _ _ _ _ _ _ _ ?_ (by decide) rfl FG' R3 U3
    unfold bad5
    repeat' split
    all_goals omega
  · refine hbad 1 b _ _ _ _ _ _ _ ?_ (by decide) rfl FG' R3 U3
    unfold bad5
    repeat' split
    all_goals omega
  · refine hbad 0 a _ _ _ _ _ _ _ ?_ (by decide) rfl FG' R3 U3
    unfold bad5
    repeat' split
    all_goals omega
  · refine hbad 0 a _ _ _ _ _ _ _ ?_ (by decide) rfl FG' R3 U3
    unfold bad5
    repeat' split
    all_goals omega
end
end Mine
end
section
open PySem PySem.W PyProof.Rows PySem.Calls PySem.Spec
set_option maxRecDepth 100000
namespace Mine
open LCg LCt
section
variable {prog : Program} {w : World} {A : Around} {E : Value → Shared → Prop} {s : Shared} {h₀ : Heap} {L : Addr} {m : Str → Option Value} {env : Env}
/-- a test that says no and changes nothing that the ledger speaks of -/
def TestOff (h₀ : Heap) (L : Addr) (m : Str → Option Value) (s : Shared) (led : List (Addr × Obj)) (ok : Bool) (s' : Shared) : Prop :=
  ok = false ∧ ∃ h' tk, s' = { s with heap := h', toks := tk } ∧ Fr h₀ L h' m ∧ News h₀ L h' led
theorem TestOff.intro {led led' : List (Addr × Obj)} {h' : Heap} {tk : Nat} (F : Fr h₀ L h' m) (N : News h₀ L h' led') (hs : ∀ p ∈ led, p ∈ led') : TestOff h₀ L m s led false { s with heap := h', toks := tk } :=
  ⟨rfl, h', tk, rfl, F, fun p hp => N p (hs p hp)⟩

theorem compRestT_none {ct elt : Expr} {x : Str} {scope : Scope} {cl : List (Str × Addr)} {S : List (Addr × Obj) → Prop} {P : Nat → Value → Prop} {Fin : List Value → List (Addr × Obj) → Prop} {news : List (Addr × Obj)}
    (hS : S news) (hfin : Fin [] news)
    (htest : ∀ (i : Nat) (v : Value) (I : Addr) (oI : Obj) (C : Addr) (oC : Obj) (D : Addr) (m₂ : Str → Option Value) (h : Heap) (tk : Nat) (E' : Value → Shared → Prop), P i v → NsObj oC m₂ → m₂ x = some v → Fr h₀ L h m → News h₀ L h ((I, oI) :: (C, oC) :: (D, lst []) :: news) →
      wpAny (model prog w) A (isTrue ct (compEnvC scope cl C env) (eval ct (compEnvC scope cl C env))) (TestOff h₀ L m { s with heap := h, toks := tk } ((I, oI) :: (C, oC) :: (D, lst []) :: news)) E' { s with heap := h, toks := tk }) :
    ∀ k i, CompRestT prog w A h₀ L m env ct elt x scope cl s S P Fin k i [] news
  | 0, _ => hfin
  | k + 1, i => fun v I oI C oC D m₂ h tk E' hP hC hm F N off d => by
    refine wpAny_mono (htest i v I oI C oC D m₂ h tk E' hP hC hm F N) (fun ok s' q => ?_) fun _ _ e => e
    obtain ⟨rfl, h', tk', rfl, F', N'⟩ := q
    simp only [Bool.false_eq_true, if_false]
    exact ⟨h', tk', news, rfl, F', N', off, hS, compRestT_none hS hfin htest k (i + 1)⟩

theorem ListComp_none {ct elt iter : Expr} {x : Str} {px : Pos} {scope : Scope} {cl : List (Str × Addr)} {pos : Pos} {Q : Value → Shared → Prop} {ax : Addr} {items : Array Value} {n : Nat} {news : List (Addr × Obj)}
    (F : Fr h₀ L s.heap m) (N : News h₀ L s.heap news) (hh : A.handled = none)
    (hev : ∀ Q' : Value → Shared → Prop, Q' (.ref ax) s → wpAny (model prog w) A (eval iter env) Q' E s)
    (ht : (ax, ({ cls := .type "tuple", data := .seq items n } : Obj)) ∈ news ∨ (ax, W.listOf items n) ∈ news) (hsz : items.size ≤ sizeLine)
    (hclos : closureFor scope env = pure cl) (hcell : ∀ y ∈ scope.names, y.2 ≠ .cell) (hkind : scope.kind = .function)
    (hnames : ∀ y ∈ scope.names, y.2 = .local → scope.names.lookup y.1 = some .local) (hx : scope.names.lookup x = some .local) (hs : ∀ x, foldedSetIterable iter env x = pure x)
    (htest : ∀ (i : Nat) (v : Value) (I : Addr) (oI : Obj) (C : Addr) (oC : Obj) (D : Addr) (m₂ : Str → Option Value) (h : Heap) (tk : Nat) (E' : Value → Shared → Prop), items[i]? = some v → NsObj oC m₂ → m₂ x = some v → Fr h₀ L h m → News h₀ L h ((I, oI) :: (C, oC) :: (D, lst []) :: news) →
      wpAny (model prog w) A (isTrue ct (compEnvC scope cl C env) (eval ct (compEnvC scope cl C env))) (TestOff h₀ L m { s with heap := h, toks := tk } ((I, oI) :: (C, oC) :: (D, lst []) :: news)) E' { s with heap := h, toks := tk })
    (fin : ∀ D h tk, Fr h₀ L h m → News h₀ L h ((D, lst []) :: news) → Off1 D news → Q (.ref D) { s with heap := h, toks := tk }) :
    wpAny (model prog w) A (eval (.ListComp elt [⟨.Name x px, iter, [ct], 0⟩] scope pos) env) Q E s := by
  rw [eval_ListComp]
  refine wpAny_comprehension_free (use := none) rfl hs hclos hkind hnames (hev _ ?_)
  have rr : ∀ s₂ : Shared, (∃ h, s₂ = { s with heap := h }) → ∀ D C h tk m' ys news', Fr h₀ L h m → News h₀ L h ((D, lst ys) :: news') → Off1 D news' → h.Ns C m' → h₀.get? C = none → h₀.get? D = none → C ≠ L → D ≠ L → C ≠ D → (∀ p ∈ news', p.1 ≠ C) → (fun ys nw => ys = [] ∧ nw = news) ys news' →
      compPost (model prog w) A E none Q (.ref D) C (.ok .next) { s₂ with heap := h, toks := tk } := by
    rintro _ ⟨h1, rfl⟩ D C h tk m' ys news' F' N' o1 hn hC₀ hD₀ hCL hDL hCD offC ⟨rfl, rfl⟩
    refine ⟨m', hn, fun h'' hs'' => fin D h'' tk (F'.change hs'' hCL hC₀) (fun p hp => ?_) o1⟩
    refine ⟨hs''.extBut _ _ ?_ (N' p hp).1, (N' p hp).2⟩
    rcases List.mem_cons.mp hp with rfl | hp
    · exact Ne.symm hCD
    · exact offC p hp
  rcases ht with ht | ht
  · have hl : s.heap.IsTuple ax items := ⟨_, (N _ ht).1, rfl, n, rfl⟩
    have hlt : ax < s.heap.objs.size := Heap.lt_size (N _ ht).1
    refine wpAny_pyIter_tuple hl ?_
    have up : ∀ b o, s.heap.get? b = some o → (s.heap.push { cls := .type "tuple_iterator", data := .fields #[.ref ax, .int 0 0] }).get? b = some o := fun b o e => Heap.get?_push_of_some _ e
    refine block_T (S := fun nw => (ax, ({ cls := .type "tuple", data := .seq items n } : Obj)) ∈ nw) (Fin := fun ys nw => ys = [] ∧ nw = news) (Walks.tuple hh s.heap.objs.size ax (Nat.ne_of_lt hlt) items) hsz (fun i h st => by obtain ⟨o, e, _⟩ := st.1; exact ⟨o, e⟩)
      (fun i h h' o nw st e e' k N S => ⟨by obtain ⟨o', q, r⟩ := st.1; rw [e] at q; cases q; exact ⟨o, e', r⟩, ⟨_, (N _ S).1, rfl, n, rfl⟩⟩) hcell hkind hx ⟨⟨_, Heap.get?_push_size _ rfl, rfl, rfl⟩, hl.at fun o e => up _ o e⟩ (fun b hb => ?_)
      (F.keeps up) (N.grown up) (Nat.ne_of_lt F.ns.lt) (next_is_new F) (fun p hp => Nat.ne_of_lt (Heap.lt_size (N p hp).1)) ht (compRestT_none (s := { s with heap := s.heap.push _ }) (S := fun nw => (ax, ({ cls := .type "tuple", data := .seq items n } : Obj)) ∈ nw) (P := fun i v => items[i]? = some v) (Fin := fun ys nw => ys = [] ∧ nw = news) ht (And.intro rfl rfl) (fun i v I oI C oC D m₂ h tk E' hP hC hm F' N' => htest i v I oI C oC D m₂ h tk E' hP hC hm F' N') _ _) (rr _ ⟨_, rfl⟩)
    show b < (s.heap.push _).objs.size
    rw [Heap.size_push]
    rcases List.mem_cons.mp hb with rfl | hb
    · exact Nat.lt_succ_self _
    · rw [List.mem_singleton.mp hb]; exact Nat.lt_succ_of_lt hlt
  · have hl : s.heap.IsList ax items := ⟨_, (N _ ht).1, rfl, n, rfl⟩
    have hlt : ax < s.heap.objs.size := Heap.lt_size (N _ ht).1
    refine wpAny_pyIter_list hl ?_
    have up : ∀ b o, s.heap.get? b = some o → (s.heap.push { cls := .type "list_iterator", data := .fields #[.ref ax, .int 0 0] }).get? b = some o := fun b o e => Heap.get?_push_of_some _ e
    refine block_T (S := fun nw => (ax, W.listOf items n) ∈ nw) (Fin := fun ys nw => ys = [] ∧ nw = news) (Walks.list hh s.heap.objs.size ax (Nat.ne_of_lt hlt) items) hsz (fun i h st => by obtain ⟨o, e, _⟩ := st.1; exact ⟨o, e⟩)
      (fun i h h' o nw st e e' k N S => ⟨by obtain ⟨o', q, r⟩ := st.1; rw [e] at q; cases q; exact ⟨o, e', r⟩, ⟨_, (N _ S).1, rfl, n, rfl⟩⟩) hcell hkind hx ⟨⟨_, Heap.get?_push_size _ rfl, rfl, rfl⟩, hl.at fun o e => up _ o e⟩ (fun b hb => ?_)
      (F.keeps up) (N.grown up) (Nat.ne_of_lt F.ns.lt) (next_is_new F) (fun p hp => Nat.ne_of_lt (Heap.lt_size (N p hp).1)) ht (compRestT_none (s := { s with heap := s.heap.push _ }) (S := fun nw => (ax, W.listOf items n) ∈ nw) (P := fun i v => items[i]? = some v) (Fin := fun ys nw => ys = [] ∧ nw = news) ht (And.intro rfl rfl) (fun i v I oI C oC D m₂ h tk E' hP hC hm F' N' => htest i v I oI C oC D m₂ h tk E' hP hC hm F' N') _ _) (rr _ ⟨_, rfl⟩)
    show b < (s.heap.push _).objs.size
    rw [Heap.size_push]
    rcases List.mem_cons.mp hb with rfl | hb
    · exact Nat.lt_succ_self _
    · rw [List.mem_singleton.mp hb]; exact Nat.lt_succ_of_lt hlt

/-- a test that answers b and changes nothing that the ledger speaks of -/
def TestIs (h₀ : Heap) (L : Addr) (m : Str → Option Value) (s : Shared) (led : List (Addr × Obj)) (b : Bool) (ok : Bool) (s' : Shared) : Prop :=
  ok = b ∧ ∃ h' tk, s' = { s with heap := h', toks := tk } ∧ Fr h₀ L h' m ∧ News h₀ L h' led
theorem TestIs.intro {led led' : List (Addr × Obj)} {h' : Heap} {tk : Nat} {b ok : Bool} (e : ok = b) (F : Fr h₀ L h' m) (N : News h₀ L h' led') (hs : ∀ p ∈ led, p ∈ led') : TestIs h₀ L m s led b ok { s with heap := h', toks := tk } :=
  ⟨e, h', tk, rfl, F, fun p hp => N p (hs p hp)⟩

theorem compRestT_filt {ct : Expr} {x : Str} {pe : Pos} {scope : Scope} {cl : List (Str × Addr)} {S : List (Addr × Obj) → Prop} {items : Array Value} {Fin : List Value → List (Addr × Obj) → Prop} {news : List (Addr × Obj)} (p : Value → Bool)
    (hS : S news) (hfin : Fin (items.toList.filter p) news) (hkind : scope.kind = .function) (hx : scope.names.lookup x = some .local) (hd : (x == ("__debug__" : Str)) = false)
    (htest : ∀ (i : Nat) (v : Value) (ys : List Value) (I : Addr) (oI : Obj) (C : Addr) (oC : Obj) (D : Addr) (m₂ : Str → Option Value) (h : Heap) (tk : Nat) (E' : Value → Shared → Prop), items[i]? = some v → NsObj oC m₂ → m₂ x = some v → Fr h₀ L h m → News h₀ L h ((I, oI) :: (C, oC) :: (D, lst ys) :: news) →
      wpAny (model prog w) A (isTrue ct (compEnvC scope cl C env) (eval ct (compEnvC scope cl C env))) (TestIs h₀ L m { s with heap := h, toks := tk } ((I, oI) :: (C, oC) :: (D, lst ys) :: news) (p v)) E' { s with heap := h, toks := tk }) :
    ∀ k i, i + k = items.size → CompRestT prog w A h₀ L m env ct (.Name x pe) x scope cl s S (fun i v => items[i]? = some v) Fin k i ((items.toList.take i).filter p) news
  | 0, i, hk => by
    rw [List.take_of_length_le (by simp; omega)]
    exact hfin
  | k + 1, i, hk => fun v I oI C oC D m₂ h tk E' hP hC hm F N off d => by
    have hn := take_succ_filter p items.toList i v (by simpa using hP)
    have rest := compRestT_filt (pe := pe) p hS hfin hkind hx hd htest k (i + 1) (by omega)
    refine wpAny_mono (htest i v _ I oI C oC D m₂ h tk E' hP hC hm F N) (fun ok s' q => ?_) fun _ _ e => e
    obtain ⟨rfl, h', tk', rfl, F', N'⟩ := q
    cases hp : p v with
    | false =>
      simp only [Bool.false_eq_true, if_false]
      rw [hp] at hn
      simp only [Bool.false_eq_true, if_false, List.append_nil] at hn
      exact ⟨h', tk', news, rfl, F', N', off, hS, hn ▸ rest⟩
    | true =>
      simp only [if_true]
      rw [hp] at hn
      simp only [if_true] at hn
      rw [hn] at rest
      refine LCgL.ld_own N' (.tail _ (.head _)) hC hm ?_ (by simp [compEnvC, relabel, hkind]) (lookup_relabel_local hx) hd
      exact ⟨h', tk', news, rfl, F', N', off, hS, rest⟩

theorem ListComp_filt {ct iter : Expr} {x : Str} {px pe : Pos} {scope : Scope} {cl : List (Str × Addr)} {pos : Pos} {Q : Value → Shared → Prop} {ax : Addr} {items : Array Value} {n : Nat} {news : List (Addr × Obj)} (p : Value → Bool)
    (F : Fr h₀ L s.heap m) (N : News h₀ L s.heap news) (hh : A.handled = none)
    (hev : ∀ Q' : Value → Shared → Prop, Q' (.ref ax) s → wpAny (model prog w) A (eval iter env) Q' E s)
    (ht : (ax, W.listOf items n) ∈ news) (hsz : items.size ≤ sizeLine)
    (hclos : closureFor scope env = pure cl) (hcell : ∀ y ∈ scope.names, y.2 ≠ .cell) (hkind : scope.kind = .function)
    (hnames : ∀ y ∈ scope.names, y.2 = .local → scope.names.lookup y.1 = some .local) (hx : scope.names.lookup x = some .local) (hd : (x == ("__debug__" : Str)) = false) (hs : ∀ x, foldedSetIterable iter env x = pure x)
    (htest : ∀ (i : Nat) (v : Value) (ys : List Value) (I : Addr) (oI : Obj) (C : Addr) (oC : Obj) (D : Addr) (m₂ : Str → Option Value) (h : Heap) (tk : Nat) (E' : Value → Shared → Prop), items[i]? = some v → NsObj oC m₂ → m₂ x = some v → Fr h₀ L h m → News h₀ L h ((I, oI) :: (C, oC) :: (D, lst ys) :: news) →
      wpAny (model prog w) A (isTrue ct (compEnvC scope cl C env) (eval ct (compEnvC scope cl C env))) (TestIs h₀ L m { s with heap := h, toks := tk } ((I, oI) :: (C, oC) :: (D, lst ys) :: news) (p v)) E' { s with heap := h, toks := tk })
    (fin : ∀ D h tk, Fr h₀ L h m → News h₀ L h ((D, lst (items.toList.filter p)) :: news) → Off1 D news → Q (.ref D) { s with heap := h, toks := tk }) :
    wpAny (model prog w) A (eval (.ListComp (.Name x pe) [⟨.Name x px, iter, [ct], 0⟩] scope pos) env) Q E s := by
  rw [eval_ListComp]
  refine wpAny_comprehension_free (use := none) rfl hs hclos hkind hnames (hev _ ?_)
  have rr : ∀ s₂ : Shared, (∃ h, s₂ = { s with heap := h }) → ∀ D C h tk m' ys news', Fr h₀ L h m → News h₀ L h ((D, lst ys) :: news') → Off1 D news' → h.Ns C m' → h₀.get? C = none → h₀.get? D = none → C ≠ L → D ≠ L → C ≠ D → (∀ p ∈ news', p.1 ≠ C) → (fun ys nw => ys = items.toList.filter p ∧ nw = news) ys news' →
      compPost (model prog w) A E none Q (.ref D) C (.ok .next) { s₂ with heap := h, toks := tk } := by
    rintro _ ⟨h1, rfl⟩ D C h tk m' ys news' F' N' o1 hn hC₀ hD₀ hCL hDL hCD offC ⟨rfl, rfl⟩
    refine ⟨m', hn, fun h'' hs'' => fin D h'' tk (F'.change hs'' hCL hC₀) (fun p hp => ?_) o1⟩
    refine ⟨hs''.extBut _ _ ?_ (N' p hp).1, (N' p hp).2⟩
    rcases List.mem_cons.mp hp with rfl | hp
    · exact Ne.symm hCD
    · exact offC p hp
  have hl : s.heap.IsList ax items := ⟨_, (N _ ht).1, rfl, n, rfl⟩
  have hlt : ax < s.heap.objs.size := Heap.lt_size (N _ ht).1
  refine wpAny_pyIter_list hl ?_
  have up : ∀ b o, s.heap.get? b = some o → (s.heap.push { cls := .type "list_iterator", data := .fields #[.ref ax, .int 0 0] }).get? b = some o := fun b o e => Heap.get?_push_of_some _ e
  refine block_T (S := fun nw => (ax, W.listOf items n) ∈ nw) (Fin := fun ys nw => ys = items.toList.filter p ∧ nw = news) (Walks.list hh s.heap.objs.size ax (Nat.ne_of_lt hlt) items) hsz (fun i h st => by obtain ⟨o, e, _⟩ := st.1; exact ⟨o, e⟩)
    (fun i h h' o nw st e e' k N S => ⟨by obtain ⟨o', q, r⟩ := st.1; rw [e] at q; cases q; exact ⟨o, e', r⟩, ⟨_, (N _ S).1, rfl, n, rfl⟩⟩) hcell hkind hx ⟨⟨_, Heap.get?_push_size _ rfl, rfl, rfl⟩, hl.at fun o e => up _ o e⟩ (fun b hb => ?_)
    (F.keeps up) (N.grown up) (Nat.ne_of_lt F.ns.lt) (next_is_new F) (fun p hp => Nat.ne_of_lt (Heap.lt_size (N p hp).1)) ht (compRestT_filt (s := { s with heap := s.heap.push _ }) (S := fun nw => (ax, W.listOf items n) ∈ nw) (Fin := fun ys nw => ys = items.toList.filter p ∧ nw = news) p ht (And.intro rfl rfl) hkind hx hd (fun i v ys I oI C oC D m₂ h tk E' hP hC hm F' N' => htest i v ys I oI C oC D m₂ h tk E' hP hC hm F' N') items.size 0 (by omega)) (rr _ ⟨_, rfl⟩)
  show b < (s.heap.push _).objs.size
  rw [Heap.size_push]
  rcases List.mem_cons.mp hb with rfl | hb
  · exact Nat.lt_succ_self _
  · rw [List.mem_singleton.mp hb]; exact Nat.lt_succ_of_lt hlt
end
end Mine
end
section
open PySem PySem.W PyProof.Rows PySem.Calls PySem.Spec
set_option maxRecDepth 100000
namespace Mine
open LCg LCt
section
variable {prog : Program} {w : World} {A : Around} {E : Value → Shared → Prop} {s : Shared} {h₀ : Heap} {L : Addr} {m : Str → Option Value} {env : Env}

theorem newEnv1 {M : Model} {scope : Scope} {globals : Addr} {cl : List (Str × Addr)} {qual : Str} {outer : Env} {x : Str} {Q : Env → Shared → Prop}
    (hcl : ∀ n, cellsFrom n scope.names cl = (x, n) :: cl) (hpc : ∀ h, pushCells h scope.names = h.push { cls := .type "cell", data := .cell none })
    (hQ : Q { scope, locals := s.heap.objs.size, globals, cells := (x, s.heap.objs.size + 1) :: cl, qual, func := none, code := outer.code, frame := outer.frame, builtins := outer.builtins }
      { s with heap := (s.heap.push { cls := .type "dict", data := .dict #[] }).push { cls := .type "cell", data := .cell none } }) :
    wpAny M A (newFunctionEnv scope globals cl [] qual none .none (some outer)) Q E s := by
  simp only [newFunctionEnv, Option.isSome_some, if_true]
  refine wpAny_bind (wpAny_alloc ?_)
  refine wpAny_bind (wpAny_layCells _ (fun name kind cells => by cases hkc : kind == NameKind.cell <;> simp [hkc]) _ _ _ _ ?_)
  rw [show ({ s with heap := s.heap.push { cls := .type "dict", data := .dict #[] } } : Shared).heap.objs.size = s.heap.objs.size + 1 from Heap.size_push ..]
  rw [hcl, hpc]
  simp only [List.forIn_nil]
  exact wpAny_bind (wpAny_pure (wpAny_pure hQ))

/-- what the iterable of such a comprehension gives -/
def SrcK (prog : Program) (w : World) (A : Around) (h₀ : Heap) (L : Addr) (m : Str → Option Value) (env : Env) (elt : Expr) (x : Str) (scope : Scope) (cl : List (Str × Addr)) (Q : Value → Shared → Prop) (xv : Value) (s₁ : Shared) : Prop :=
  ∃ (J : Nat → List Value → List (Addr × Obj) → Prop) (ax : Addr) (items : Array Value) (n : Nat) (news : List (Addr × Obj)), xv = .ref ax ∧ Fr h₀ L s₁.heap m ∧ News h₀ L s₁.heap news ∧ (ax, W.listOf items n) ∈ news ∧ items.size ≤ sizeLine ∧ J 0 [] news ∧ (∀ i ys nw, J i ys nw → (ax, W.listOf items n) ∈ nw) ∧
      (∀ i v ys nw h tk I oI K oK C oC D (E' : Value → Shared → Prop), items[i]? = some v → J i ys nw → oK.data = .cell (some v) → Fr h₀ L h m → News h₀ L h ((I, oI) :: (K, oK) :: (C, oC) :: (D, lst ys) :: nw) → (∀ p ∈ nw, p.1 ≠ I ∧ p.1 ≠ K ∧ p.1 ≠ C ∧ p.1 ≠ D) →
        ((@Ne Nat I C) ∧ (@Ne Nat I D) ∧ (@Ne Nat C D) ∧ (@Ne Nat K I) ∧ (@Ne Nat K C) ∧ (@Ne Nat K D)) →
        wpAny (model prog w) A (eval elt (compEnvC scope ((x, K) :: cl) C env)) (CEnd2 h₀ L m { s₁ with heap := h, toks := tk } I oI K oK C oC D (lst ys) (fun y nw' => J (i + 1) (ys ++ [y]) nw')) E' { s₁ with heap := h, toks := tk }) ∧
      (∀ D h tk ys nw, Fr h₀ L h m → News h₀ L h ((D, lst ys) :: nw) → (∀ p ∈ nw, p.1 ≠ D) → J items.size ys nw → ys.length = items.size → Q (.ref D) { s₁ with heap := h, toks := tk })
/-- a list comprehension over a written list whose variable is a cell of the block -/
theorem ListComp_K {elt iter : Expr} {x : Str} {px : Pos} {scope : Scope} {cl : List (Str × Addr)} {pos : Pos} {Q : Value → Shared → Prop}
    (_F₀ : Fr h₀ L s.heap m) (hh : A.handled = none) (hclos : closureFor scope env = pure cl) (hkind : scope.kind = .function)
    (hcl : ∀ n, cellsFrom n scope.names cl = (x, n) :: cl) (hpc : ∀ h, pushCells h scope.names = h.push { cls := .type "cell", data := .cell none })
    (hnames : ∀ y ∈ scope.names, y.2 = .local → scope.names.lookup y.1 = some .local) (hx : (relabel scope env).names.lookup x = some .cell) (hs : ∀ x, foldedSetIterable iter env x = pure x)
    (hev : wpAny (model prog w) A (eval iter env) (SrcK prog w A h₀ L m env elt x scope cl Q) E s) :
    wpAny (model prog w) A (eval (.ListComp elt [⟨.Name x px, iter, [], 0⟩] scope pos) env) Q E s := by
  rw [eval_ListComp]
  refine wpAny_comprehension_free (use := none) rfl hs hclos hkind hnames (wpAny_mono hev (fun xv s₁ q => ?_) fun _ _ e => e)
  obtain ⟨J, ax, items, n, news, rfl, F, N, hm, hsz, hJ, hmem, elem, fin⟩ := q
  have hl : s₁.heap.IsList ax items := ⟨_, (N _ hm).1, rfl, n, rfl⟩
  have hlt : ax < s₁.heap.objs.size := Heap.lt_size (N _ hm).1
  refine wpAny_pyIter_list hl ?_
  have up : ∀ b o, s₁.heap.get? b = some o → (s₁.heap.push { cls := .type "list_iterator", data := .fields #[.ref ax, .int 0 0] }).get? b = some o := fun b o e => Heap.get?_push_of_some _ e
  have F1 := F.keeps up
  have N1 : News h₀ L _ news := N.grown up
  have W := Walks.list (prog := prog) (w := w) (A := A) hh s₁.heap.objs.size ax (Nat.ne_of_lt hlt) items
  have hIlt : s₁.heap.objs.size < (s₁.heap.push { cls := .type "list_iterator", data := .fields #[.ref ax, .int 0 0] }).objs.size := by rw [Heap.size_push]; exact Nat.lt_succ_self _
  have fresh₀ : ∀ a, s₁.heap.objs.size ≤ a → h₀.get? a = none := fun a ha => by
    cases e : h₀.get? a with
    | none => rfl
    | some o => exact absurd (Heap.lt_size (F.keep _ _ e)) (Nat.not_lt.mpr ha)
  have hI₀ : h₀.get? s₁.heap.objs.size = none := fresh₀ _ (Nat.le_refl _)
  have hIL : L ≠ s₁.heap.objs.size := Nat.ne_of_lt F.ns.lt
  have offI : ∀ p ∈ news, p.1 ≠ s₁.heap.objs.size := fun p hp => Nat.ne_of_lt (Heap.lt_size (N p hp).1)
  have hst0 : Heap.IsListIter (s₁.heap.push { cls := .type "list_iterator", data := .fields #[.ref ax, .int 0 0] }) s₁.heap.objs.size ax 0 := ⟨_, Heap.get?_push_size _ rfl, rfl, rfl⟩
  have hltL : L < s₁.heap.objs.size := F.ns.lt
  generalize hI : s₁.heap.objs.size = I at *
  generalize hHi : s₁.heap.push { cls := .type "list_iterator", data := .fields #[.ref ax, .int 0 0] } = Hi at *
  have hHs : Hi.objs.size = I + 1 := by rw [← hHi, Heap.size_push, hI]
  refine wpAny_newObj_type (newEnv1 hcl hpc ?_)
  dsimp only
  rw [Heap.size_push, hHs]
  generalize hD : I + 1 = D
  rw [hD] at hHs
  have hDI : @Ne Nat I D := by omega
  have hld : ∀ b o, Hi.get? b = some o → ((((Hi.push { cls := .type "list", dict := none, data := .seq ([] : List Value).toArray }).push { cls := .type "dict", data := .dict #[] }).push { cls := .type "cell", data := .cell none })).get? b = some o :=
    fun b o e => Heap.get?_push_of_some _ (Heap.get?_push_of_some _ (Heap.get?_push_of_some _ e))
  have hDo : ((((Hi.push { cls := .type "list", dict := none, data := .seq ([] : List Value).toArray }).push { cls := .type "dict", data := .dict #[] }).push { cls := .type "cell", data := .cell none })).get? D = some (lst []) :=
    Heap.get?_push_of_some _ (Heap.get?_push_of_some _ (hHs ▸ Heap.get?_push_size _ rfl))
  have hCo : ((((Hi.push { cls := .type "list", dict := none, data := .seq ([] : List Value).toArray }).push { cls := .type "dict", data := .dict #[] }).push { cls := .type "cell", data := .cell none })).get? (D + 1) = some { cls := .type "dict", data := .dict #[] } := by
    refine Heap.get?_push_of_some _ ?_
    have := Heap.get?_push_size (Hi.push { cls := .type "list", dict := none, data := .seq ([] : List Value).toArray }) (o := { cls := .type "dict", data := .dict #[] }) rfl
    rw [Heap.size_push, hHs] at this
    exact this
  have hKo : ((((Hi.push { cls := .type "list", dict := none, data := .seq ([] : List Value).toArray }).push { cls := .type "dict", data := .dict #[] }).push { cls := .type "cell", data := .cell none })).get? (D + 2) = some { cls := .type "cell", data := .cell none } := by
    have := Heap.get?_push_size ((Hi.push { cls := .type "list", dict := none, data := .seq ([] : List Value).toArray }).push { cls := .type "dict", data := .dict #[] }) (o := { cls := .type "cell", data := .cell none }) rfl
    rw [Heap.size_push, Heap.size_push, hHs] at this
    exact this
  generalize (((Hi.push { cls := .type "list", dict := none, data := .seq ([] : List Value).toArray }).push { cls := .type "dict", data := .dict #[] }).push { cls := .type "cell", data := .cell none }) = H3 at hld hDo hCo hKo ⊢
  have hDn : @Eq Nat D (I + 1) := hD.symm
  have hLI : @LT.lt Nat _ L I := hltL
  have hC₀ : h₀.get? (D + 1) = none := fresh₀ _ (by show @LE.le Nat _ I (D + 1); omega)
  have hK₀ : h₀.get? (D + 1 + 1) = none := fresh₀ _ (by show @LE.le Nat _ I (D + 1 + 1); omega)
  have hD₀ : h₀.get? D = none := fresh₀ _ (by show @LE.le Nat _ I D; omega)
  have hCL : @Ne Nat (D + 1) L := by omega
  have hKL : @Ne Nat (D + 1 + 1) L := by omega
  have hDL : @Ne Nat D L := by omega
  have hCD : @Ne Nat (D + 1) D := by omega
  have hKD : @Ne Nat (D + 1 + 1) D := by omega
  have hKC : @Ne Nat (D + 1 + 1) (D + 1) := by omega
  have hCI : @Ne Nat (D + 1) I := by omega
  have hKI : @Ne Nat (D + 1 + 1) I := by omega
  have off0 : ∀ p ∈ news, p.1 ≠ I ∧ p.1 ≠ D + 1 + 1 ∧ p.1 ≠ D + 1 ∧ p.1 ≠ D := fun p hp => by
    have := Heap.lt_size (N p hp).1
    rw [hI] at this
    have h1 : @LT.lt Nat _ p.1 I := this
    exact ⟨by show @Ne Nat _ _; omega, by show @Ne Nat _ _; omega, by show @Ne Nat _ _; omega, by show @Ne Nat _ _; omega⟩
  have F3 : Fr h₀ L H3 m := F1.keeps hld
  have N3 : News h₀ L H3 ((D + 1 + 1, { cls := .type "cell", data := .cell none }) :: (D + 1, { cls := .type "dict", data := .dict #[] }) :: (D, lst []) :: news) := fun p hp => by
    rcases List.mem_cons.mp hp with rfl | hp
    · exact ⟨hKo, hKL, hK₀⟩
    rcases List.mem_cons.mp hp with rfl | hp
    · exact ⟨hCo, hCL, hC₀⟩
    rcases List.mem_cons.mp hp with rfl | hp
    · exact ⟨hDo, hDL, hD₀⟩
    · exact ⟨hld _ _ (N1 p hp).1, (N1 p hp).2⟩
  have it3 : Heap.IsListIter H3 I ax 0 := hst0.at fun o e => hld _ _ e
  clear hDo hCo hKo hld F1 N1 hst0
  generalize hC : D + 1 = C at *
  generalize hK : C + 1 = K at *
  have loop : codeAny (model prog w) A (.compLoop (.ListComp elt [⟨.Name x px, iter, [], 0⟩] scope pos) 0 (.ref I) (.ref D) (compEnvC scope ((x, K) :: cl) C env))
      (compPost (model prog w) A E none Q (.ref D) C) { s₁ with heap := H3 } := by
    refine codeAny_compLoop_tests
      (fun k s' => ∃ h' tk i ys nw oK v₀, s' = { s₁ with heap := h', toks := tk } ∧ i ≤ items.size ∧ k = items.size + 1 - i ∧ ys.length = i ∧ h'.IsListIter I ax i ∧ Fr h₀ L h' m ∧ oK.data = .cell v₀ ∧
        News h₀ L h' ((K, oK) :: (C, { cls := .type "dict", data := .dict #[] }) :: (D, lst ys) :: nw) ∧ (∀ p ∈ nw, p.1 ≠ I ∧ p.1 ≠ K ∧ p.1 ≠ C ∧ p.1 ≠ D) ∧ J i ys nw) ?_ (items.size + 1)
      ⟨H3, s₁.toks, 0, [], news, _, _, rfl, Nat.zero_le _, rfl, rfl, it3, F3, rfl, N3, off0, hJ⟩
    rintro k s' ⟨h', tk, i, ys, nw, oK, v₀, rfl, hi, rfl, hyl, hit, F', hoK, N', off', hJ'⟩
    have hax := N' _ (.tail _ (.tail _ (.tail _ (hmem _ _ _ hJ'))))
    have hlx : h'.IsList ax items := ⟨_, hax.1, rfl, n, rfl⟩
    have offI' : ∀ p ∈ ((K, oK) :: (C, ({ cls := .type "dict", data := .dict #[] } : Obj)) :: (D, lst ys) :: nw), p.1 ≠ I := fun p hp => by
      rcases List.mem_cons.mp hp with rfl | hp
      · exact hKI
      rcases List.mem_cons.mp hp with rfl | hp
      · exact hCI
      rcases List.mem_cons.mp hp with rfl | hp
      · exact Ne.symm hDI
      · exact (off' p hp).1
    by_cases hlt' : i < items.size
    · refine W.item i _ _ _ hlt' ⟨hit, hlx⟩ fun v h₂ tk₂ hPv hst₂ hk₂ => ?_
      have F₂ := fr_but F' hk₂ hIL hI₀
      have N₂ := news_but N' hk₂ offI'
      refine wpAny_assign_Name (wpAny_storeName_cell (c := K) (v₀ := v₀) (by simp [compEnvC, relabel, hkind]) hx (by simp [compEnvC]) ⟨_, (N₂ _ (.head _)).1, hoK⟩ fun h₃ hc₃ hs₃ => ?_)
      obtain ⟨oK', eK, dK⟩ := hc₃
      refine wpAny_tests_nil ?_
      simp only [if_true]
      have F₃ : Fr h₀ L h₃ m := F₂.change hs₃ hKL hK₀
      obtain ⟨oI, heI, hcI, hdI⟩ := hst₂.1
      have heI3 : h₃.get? I = some oI := hs₃.extBut _ _ (Ne.symm hKI) heI
      have N₃ : News h₀ L h₃ ((I, oI) :: (K, oK') :: (C, { cls := .type "dict", data := .dict #[] }) :: (D, lst ys) :: nw) := fun p hp => by
        rcases List.mem_cons.mp hp with rfl | hp
        · exact ⟨heI3, Ne.symm hIL, hI₀⟩
        rcases List.mem_cons.mp hp with rfl | hp
        · exact ⟨eK, hKL, hK₀⟩
        have hn : p.1 ≠ K := by
          rcases List.mem_cons.mp hp with rfl | hp
          · exact Ne.symm hKC
          rcases List.mem_cons.mp hp with rfl | hp
          · exact Ne.symm hKD
          · exact (off' p hp).2.1
        exact ⟨hs₃.extBut _ _ hn (N₂ p (.tail _ hp)).1, (N₂ p (.tail _ hp)).2⟩
      refine wpAny_mono (elem i v ys nw h₃ tk₂ I oI K oK' C _ D _ hPv hJ' dK F₃ N₃ off' ⟨Ne.symm hCI, hDI, hCD, hKI, hKC, hKD⟩) (fun y s₄ q => ?_) fun _ _ e => e
      obtain ⟨h₄, tk₄, nw₄, rfl, F₄, N₄, off₄, hJ₄⟩ := q
      have zI := (N₄ _ (.head _)).1
      have zD := (N₄ _ (.tail _ (.tail _ (.tail _ (.head _))))).1
      refine append_at (hsz := by show ys.toArray.size ≤ sizeLine; rw [List.size_toArray, hyl]; exact Nat.le_trans hi hsz) zD fun h₅ hs₅ hD₅ => ?_
      refine ⟨items.size + 1 - (i + 1), by omega, h₅, tk₄, i + 1, ys ++ [y], nw₄, oK', _, rfl, hlt', rfl, by rw [List.length_append, List.length_singleton, hyl], ⟨oI, hs₅.extBut _ _ hDI zI, hcI, hdI⟩, F₄.change hs₅ hDL hD₀, dK, fun p hp => ?_, off₄, hJ₄⟩
      rcases List.mem_cons.mp hp with rfl | hp
      · exact ⟨hs₅.extBut _ _ hKD (N₄ _ (.tail _ (.head _))).1, hKL, hK₀⟩
      rcases List.mem_cons.mp hp with rfl | hp
      · exact ⟨hs₅.extBut _ _ hCD (N₄ _ (.tail _ (.tail _ (.head _)))).1, hCL, hC₀⟩
      rcases List.mem_cons.mp hp with rfl | hp
      · exact ⟨hD₅.trans (congrArg some (lst_snoc ys y)), hDL, hD₀⟩
      · have z := N₄ p (.tail _ (.tail _ (.tail _ (.tail _ hp))))
        exact ⟨hs₅.extBut _ _ (off₄ p hp).2.2.2 z.1, z.2⟩
    · obtain rfl : i = items.size := Nat.le_antisymm hi (Nat.not_lt.mp hlt')
      refine W.done _ _ _ ⟨hit, hlx⟩ fun h₂ tk₂ hk₂ => ?_
      have F₂ := fr_but F' hk₂ hIL hI₀
      have N₂ := news_but N' hk₂ offI'
      refine ⟨fun _ => none, NsObj.ns ⟨#[], 0, rfl, by intro e he; simp at he, fun _ => rfl⟩ (N₂ _ (.tail _ (.head _))).1, fun h'' hs'' => ?_⟩
      refine fin D h'' tk₂ ys nw (F₂.change hs'' hCL hC₀) (fun p hp => ?_) (fun p hp => (off' p hp).2.2.2) hJ' hyl
      refine ⟨hs''.extBut _ _ ?_ (N₂ p (.tail _ (.tail _ hp))).1, (N₂ p (.tail _ (.tail _ hp))).2⟩
      rcases List.mem_cons.mp hp with rfl | hp
      · exact Ne.symm hCD
      · exact (off' p hp).2.2.1
  exact codeAny_compStart_list loop (W.self 0 _ _ _ ⟨it3, ⟨_, (N3 _ (.tail _ (.tail _ (.tail _ hm)))).1, rfl, n, rfl⟩⟩ loop)
end
end Mine
end
section
open PySem PySem.W PyProof.Rows
namespace Mine
theorem ints_get : ∀ {vs : List Value} {ns : List Int}, IntsAre vs ns → ∀ {i : Nat} {v : Value}, vs[i]? = some v → ∃ z t, ns[i]? = some z ∧ v = .int z t
  | _, _, .nil, i, v, h => by simp at h
  | _, _, .cons z t r, 0, v, h => by
    simp only [List.getElem?_cons_zero, Option.some.injEq] at h
    exact ⟨z, t, rfl, h.symm⟩
  | _, _, .cons z t r, i + 1, v, h => by
    simp only [List.getElem?_cons_succ] at h ⊢
    exact ints_get r h
def inR (z : Int) : Value → Bool
  | .int a _ => decide (0 ≤ a) && decide (a < z)
  | _ => false
def cntR (ns : List Int) (z : Int) : Nat := (ns.filter fun x => decide (0 ≤ x) && decide (x < z)).length
theorem filter_cnt {z : Int} : ∀ {vs : List Value} {ns : List Int}, IntsAre vs ns → (vs.filter (inR z)).length = cntR ns z
  | _, _, .nil => rfl
  | _, _, .cons a t r => by
    have ih := filter_cnt (z := z) r
    unfold cntR at ih ⊢
    rw [List.filter_cons, List.filter_cons]
    show (if (decide (0 ≤ a) && decide (a < z)) = true then _ else _ : List Value).length = _
    split <;> simp_all
theorem cntR_le (ns : List Int) (z : Int) : cntR ns z ≤ ns.length := List.length_filter_le _ _
theorem ints4 {vs : List Value} {a b c d : Int} (h : IntsAre vs [a, b, c, d]) : ∃ t1 t2 t3 t4, vs = [.int a t1, .int b t2, .int c t3, .int d t4] := by
  obtain ⟨t1, v1, e1, h1⟩ := h.cons_inv
  obtain ⟨t2, v2, e2, h2⟩ := h1.cons_inv
  obtain ⟨t3, v3, e3, h3⟩ := h2.cons_inv
  obtain ⟨t4, v4, e4, h4⟩ := h3.cons_inv
  cases h4
  subst e4 e3 e2 e1
  exact ⟨_, _, _, _, rfl⟩
end Mine
end
section
set_option maxRecDepth 100000
namespace Mine
def pwC (a b c d e : Nat) : Nat := bif Nat.ble 2 a then 1 else bif Nat.ble 3 b then 1000 else bif Nat.ble 3 c then 1000000 else bif Nat.ble 4 d then 1000000000 else bif Nat.ble 1 e then 1000000000000 else 1000000000000000
def sumC (a b c d e : Nat) : Nat := pwC e d c b a + (pwC d e c b a + (pwC d c e b a + (pwC d c b e a + (pwC d c b a e + (pwC e c d b a + (pwC c e d b a + (pwC c d e b a + (pwC c d b e a + (pwC c d b a e + (pwC e c b d a + (pwC c e b d a + (pwC c b e d a + (pwC c b d e a + (pwC c b d a e + (pwC e c b a d + (pwC c e b a d + (pwC c b e a d + (pwC c b a e d + (pwC c b a d e + (pwC e d b c a + (pwC d e b c a + (pwC d b e c a + (pwC d b c e a + (pwC d b c a e + (pwC e b d c a + (pwC b e d c a + (pwC b d e c a + (pwC b d c e a + (pwC b d c a e + (pwC e b c d a + (pwC b e c d a + (pwC b c e d a + (pwC b c d e a + (pwC b c d a e + (pwC e b c a d + (pwC b e c a d + (pwC b c e a d + (pwC b c a e d + (pwC b c a d e + (pwC e d b a c + (pwC d e b a c + (pwC d b e a c + (pwC d b a e c + (pwC d b a c e + (pwC e b d a c + (pwC b e d a c + (pwC b d e a c + (pwC b d a e c + (pwC b d a c e + (pwC e b a d c + (pwC b e a d c + (pwC b a e d c + (pwC b a d e c + (pwC b a d c e + (pwC e b a c d + (pwC b e a c d + (pwC b a e c d + (pwC b a c e d + (pwC b a c d e + (pwC e d c a b + (pwC d e c a b + (pwC d c e a b + (pwC d c a e b + (pwC d c a b e + (pwC e c d a b + (pwC c e d a b + (pwC c d e a b + (pwC c d a e b + (pwC c d a b e + (pwC e c a d b + (pwC c e a d b + (pwC c a e d b + (pwC c a d e b + (pwC c a d b e + (pwC e c a b d + (pwC c e a b d + (pwC c a e b d + (pwC c a b e d + (pwC c a b d e + (pwC e d a c b + (pwC d e a c b + (pwC d a e c b + (pwC d a c e b + (pwC d a c b e + (pwC e a d c b + (pwC a e d c b + (pwC a d e c b + (pwC a d c e b + (pwC a d c b e + (pwC e a c d b + (pwC a e c d b + (pwC a c e d b + (pwC a c d e b + (pwC a c d b e + (pwC e a c b d + (pwC a e c b d + (pwC a c e b d + (pwC a c b e d + (pwC a c b d e + (pwC e d a b c + (pwC d e a b c + (pwC d a e b c + (pwC d a b e c + (pwC d a b c e + (pwC e a d b c + (pwC a e d b c + (pwC a d e b c + (pwC a d b e c + (pwC a d b c e + (pwC e a b d c + (pwC a e b d c + (pwC a b e d c + (pwC a b d e c + (pwC a b d c e + (pwC e a b c d + (pwC a e b c d + (pwC a b e c d + (pwC a b c e d + (pwC a b c d e)))))))))))))))))))))))))))))))))))))))))))))))))))))))))))))))))))))))))))))))))))))))))))))))))))))))))))))))))))))))
def upTo (p : Nat → Bool) (a b c d e : Nat) : Nat := (bif p a then 1 else 0) + ((bif p b then 1 else 0) + ((bif p c then 1 else 0) + ((bif p d then 1 else 0) + (bif p e then 1 else 0))))
def dig (s j : Nat) : Nat := s / j % 1000
def okC (a b c d e : Nat) : Bool :=
  (fun (h m u f : Int) (s : Nat) => ((5 - h) * 24 == ((dig s 1 : Nat) : Int)) && ((h * (5 - m) * 6 == ((dig s 1000 : Nat) : Int)) && ((h * (m - 1) * (5 - m) * 2 == ((dig s 1000000 : Nat) : Int)) && ((h * (m - 1) * (m - 2) * (5 - u) == ((dig s 1000000000 : Nat) : Int)) &&
    ((h * (m - 1) * (m - 2) * (u - 3) - f * (h - 1) * (m - 2) * (m - 3) * (u - 4) == ((dig s 1000000000000 : Nat) : Int)) && (f * (h - 1) * (m - 2) * (m - 3) * (u - 4) == ((dig s 1000000000000000 : Nat) : Int)))))))
    (upTo (Nat.ble · 1) a b c d e : Nat) (upTo (Nat.ble · 2) a b c d e : Nat) (upTo (Nat.ble · 3) a b c d e : Nat) (upTo (Nat.ble · 0) a b c d e : Nat) (sumC a b c d e)
def all5 (p : Nat → Bool) : Bool := p 0 && (p 1 && (p 2 && (p 3 && p 4)))
theorem all5_get {p : Nat → Bool} (h : all5 p = true) {x : Nat} (hx : x < 5) : p x = true := by
  unfold all5 at h
  simp only [Bool.and_eq_true] at h
  obtain ⟨h0, h1, h2, h3, h4⟩ := h
  rcases x with _ | _ | _ | _ | _ | x <;> first | assumption | omega
theorem okAll : (all5 fun a => all5 fun b => all5 fun c => all5 fun d => all5 fun e => okC a b c d e) = true := by decide +kernel
def cl (x : Int) : Nat := if 0 ≤ x ∧ x < 1000000 then (if x < 60 then (if x < 24 then (if x < 2 then 0 else 1) else 2) else 3) else 4
theorem cl_lt (x : Int) : cl x < 5 := by
  unfold cl
  (repeat' split) <;> decide
theorem cl_ok (a b c d e : Int) : okC (cl a) (cl b) (cl c) (cl d) (cl e) = true := all5_get (all5_get (all5_get (all5_get (all5_get okAll (cl_lt a)) (cl_lt b)) (cl_lt c)) (cl_lt d)) (cl_lt e)
theorem cl24 (x : Int) : (decide (0 ≤ x) && decide (x < 24)) = Nat.ble (cl x) 1 := by
  rw [Bool.eq_iff_iff, Bool.and_eq_true, decide_eq_true_eq, decide_eq_true_eq, Nat.ble_eq]
  unfold cl
  (repeat' split) <;> omega
theorem cl60 (x : Int) : (decide (0 ≤ x) && decide (x < 60)) = Nat.ble (cl x) 2 := by
  rw [Bool.eq_iff_iff, Bool.and_eq_true, decide_eq_true_eq, decide_eq_true_eq, Nat.ble_eq]
  unfold cl
  (repeat' split) <;> omega
theorem clM (x : Int) : (decide (0 ≤ x) && decide (x < 1000000)) = Nat.ble (cl x) 3 := by
  rw [Bool.eq_iff_iff, Bool.and_eq_true, decide_eq_true_eq, decide_eq_true_eq, Nat.ble_eq]
  unfold cl
  (repeat' split) <;> omega
theorem cl2 (x : Int) : (decide (0 ≤ x) && decide (x < 2)) = Nat.ble (cl x) 0 := by
  rw [Bool.eq_iff_iff, Bool.and_eq_true, decide_eq_true_eq, decide_eq_true_eq, Nat.ble_eq]
  unfold cl
  (repeat' split) <;> omega
theorem filt5 (p : Int → Bool) (q : Nat → Bool) (hp : ∀ x, p x = q (cl x)) (a b c d e : Int) : ([a, b, c, d, e].filter p).length = upTo q (cl a) (cl b) (cl c) (cl d) (cl e) := by
  simp only [List.filter_cons, List.filter_nil, upTo, hp]
  cases q (cl a) <;> cases q (cl b) <;> cases q (cl c) <;> cases q (cl d) <;> cases q (cl e) <;> rfl
theorem bad_pw (a b c d e : Int) : 1000 ^ bad5 a b c d e = pwC (cl a) (cl b) (cl c) (cl d) (cl e) := by
  have h1 : Nat.ble 2 (cl a) = decide (¬ (0 ≤ a ∧ a ≤ 23)) := by
    rw [Bool.eq_iff_iff, decide_eq_true_eq, Nat.ble_eq]
    unfold cl
    (repeat' split) <;> omega
  have h2 : ∀ b, Nat.ble 3 (cl b) = decide (¬ (0 ≤ b ∧ b ≤ 59)) := by
    intro b
    rw [Bool.eq_iff_iff, decide_eq_true_eq, Nat.ble_eq]
    unfold cl
    (repeat' split) <;> omega
  have h4 : Nat.ble 4 (cl d) = decide (¬ (0 ≤ d ∧ d ≤ 999999)) := by
    rw [Bool.eq_iff_iff, decide_eq_true_eq, Nat.ble_eq]
    unfold cl
    (repeat' split) <;> omega
  have h5 : Nat.ble 1 (cl e) = decide (¬ (e = 0 ∨ e = 1)) := by
    rw [Bool.eq_iff_iff, decide_eq_true_eq, Nat.ble_eq]
    unfold cl
    (repeat' split) <;> omega
  unfold pwC bad5
  rw [h1, h2 b, h2 c, h4, h5]
  simp only [Bool.cond_decide]
  (repeat' split) <;> rfl
def bad5L : List Int → Nat
  | [a, b, c, d, e] => bad5 a b c d e
  | _ => 5
theorem bad5L_le (o : List Int) : bad5L o ≤ 5 := by
  unfold bad5L
  split
  · unfold bad5
    (repeat' split) <;> decide
  · exact Nat.le_refl _
def tallyN (os : List (List Int)) : List Int := os.foldl (fun t o => t.modify (bad5L o) (· + 1)) [0, 0, 0, 0, 0, 0]
theorem tallyN_len (os : List (List Int)) : (tallyN os).length = 6 := by
  have : ∀ (os : List (List Int)) (t : List Int), (os.foldl (fun t o => t.modify (bad5L o) (· + 1)) t).length = t.length := by
    intro os
    induction os with
    | nil => intro t; rfl
    | cons o r ih => intro t; rw [List.foldl_cons, ih, List.length_modify]
  rw [tallyN, this]; rfl
theorem tallyN_snoc {os : List (List Int)} {i : Nat} {o : List Int} (h : os[i]? = some o) : tallyN (os.take (i + 1)) = (tallyN (os.take i)).modify (bad5L o) (· + 1) := by
  rw [List.take_add_one, h]
  simp [tallyN, List.foldl_append]
def codeN : List (List Int) → Nat
  | [] => 0
  | o :: r => 1000 ^ bad5L o + codeN r
theorem tally_code : ∀ (os : List (List Int)), ∃ c0 c1 c2 c3 c4 c5 : Nat, (∀ t0 t1 t2 t3 t4 t5 : Int, os.foldl (fun t o => t.modify (bad5L o) (· + 1)) [t0, t1, t2, t3, t4, t5] = [t0 + c0, t1 + c1, t2 + c2, t3 + c3, t4 + c4, t5 + c5]) ∧
    codeN os = c0 + c1 * 1000 + c2 * 1000000 + c3 * 1000000000 + c4 * 1000000000000 + c5 * 1000000000000000 ∧ c0 + c1 + c2 + c3 + c4 + c5 = os.length
  | [] => ⟨0, 0, 0, 0, 0, 0, fun _ _ _ _ _ _ => by simp, rfl, rfl⟩
  | o :: r => by
    obtain ⟨c0, c1, c2, c3, c4, c5, h1, h2, h3⟩ := tally_code r
    have hb := bad5L_le o
    have h6 : bad5L o = 0 ∨ bad5L o = 1 ∨ bad5L o = 2 ∨ bad5L o = 3 ∨ bad5L o = 4 ∨ bad5L o = 5 := by omega
    rcases h6 with e | e | e | e | e | e
    · refine ⟨c0 + 1, c1, c2, c3, c4, c5, fun t0 t1 t2 t3 t4 t5 => ?_, ?_, ?_⟩
      · rw [List.foldl_cons, e]
        refine (h1 (t0 + 1) t1 t2 t3 t4 t5).trans ?_
        rw [show t0 + 1 + (c0 : Int) = t0 + ((c0 + 1 : Nat) : Int) by omega]
      · rw [codeN, e, h2]; omega
      · rw [List.length_cons]; omega
    · refine ⟨c0, c1 + 1, c2, c3, c4, c5, fun t0 t1 t2 t3 t4 t5 => ?_, ?_, ?_⟩
      · rw [List.foldl_cons, e]
        refine (h1 t0 (t1 + 1) t2 t3 t4 t5).trans ?_
        rw [show t1 + 1 + (c1 : Int) = t1 + ((c1 + 1 : Nat) : Int) by omega]
      · rw [codeN, e, h2]; omega
      · rw [List.length_cons]; omega
    · refine ⟨c0, c1, c2 + 1, c3, c4, c5, fun t0 t1 t2 t3 t4 t5 => ?_, ?_, ?_⟩
      · rw [List.foldl_cons, e]
        refine (h1 t0 t1 (t2 + 1) t3 t4 t5).trans ?_
        rw [show t2 + 1 + (c2 : Int) = t2 + ((c2 + 1 : Nat) : Int) by omega]
      · rw [codeN, e, h2]; omega
      · rw [List.length_cons]; omega
    · refine ⟨c0, c1, c2, c3 + 1, c4, c5, fun t0 t1 t2 t3 t4 t5 => ?_, ?_, ?_⟩
      · rw [List.foldl_cons, e]
        refine (h1 t0 t1 t2 (t3 + 1) t4 t5).trans ?_
        rw [show t3 + 1 + (c3 : Int) = t3 + ((c3 + 1 : Nat) : Int) by omega]
      · rw [codeN, e, h2]; omega
      · rw [List.length_cons]; omega
    · refine ⟨c0, c1, c2, c3, c4 + 1, c5, fun t0 t1 t2 t3 t4 t5 => ?_, ?_, ?_⟩
      · rw [List.foldl_cons, e]
        refine (h1 t0 t1 t2 t3 (t4 + 1) t5).trans ?_
        rw [show t4 + 1 + (c4 : Int) = t4 + ((c4 + 1 : Nat) : Int) by omega]
      · rw [codeN, e, h2]; omega
      · rw [List.length_cons]; omega
    · refine ⟨c0, c1, c2, c3, c4, c5 + 1, fun t0 t1 t2 t3 t4 t5 => ?_, ?_, ?_⟩
      · rw [List.foldl_cons, e]
        refine (h1 t0 t1 t2 t3 t4 (t5 + 1)).trans ?_
        rw [show t5 + 1 + (c5 : Int) = t5 + ((c5 + 1 : Nat) : Int) by omega]
      · rw [codeN, e, h2]; omega
      · rw [List.length_cons]; omega
def pwL : List Int → Nat
  | [a, b, c, d, e] => pwC (cl a) (cl b) (cl c) (cl d) (cl e)
  | _ => 0
def codeP : List (List Int) → Nat
  | [] => 0
  | [o] => pwL o
  | o :: r => pwL o + codeP r
theorem code_eq : ∀ (os : List (List Int)), (∀ o ∈ os, o.length = 5) → codeN os = codeP os
  | [], _ => rfl
  | [o], h => by
    obtain ⟨a, b, c, d, e, rfl⟩ := len5 (h o (.head _))
    show 1000 ^ bad5 a b c d e + 0 = _
    rw [bad_pw]; rfl
  | o :: o2 :: r, h => by
    obtain ⟨a, b, c, d, e, rfl⟩ := len5 (h o (.head _))
    have ih := code_eq (o2 :: r) fun q hq => h q (.tail _ hq)
    show 1000 ^ bad5 a b c d e + codeN (o2 :: r) = pwC _ _ _ _ _ + codeP (o2 :: r)
    rw [bad_pw, ih]
theorem ins0 (t : Int) : insAt t [] = [[t]] := rfl
theorem ins1 (t a : Int) : insAt t [a] = [[t, a], [a, t]] := rfl
theorem ins2 (t a b : Int) : insAt t [a, b] = [[t, a, b], [a, t, b], [a, b, t]] := rfl
theorem ins3 (t a b c : Int) : insAt t [a, b, c] = [[t, a, b, c], [a, t, b, c], [a, b, t, c], [a, b, c, t]] := rfl
theorem ins4 (t a b c d : Int) : insAt t [a, b, c, d] = [[t, a, b, c, d], [a, t, b, c, d], [a, b, t, c, d], [a, b, c, t, d], [a, b, c, d, t]] := rfl
set_option maxHeartbeats 2000000 in
theorem code_sum (a b c d e : Int) : codeP (ordersN [a, b, c, d, e]) = sumC (cl a) (cl b) (cl c) (cl d) (cl e) := by
  have h : ordersN [a, b, c, d, e] = [[e, d, c, b, a], [d, e, c, b, a], [d, c, e, b, a], [d, c, b, e, a], [d, c, b, a, e], [e, c, d, b, a], [c, e, d, b, a], [c, d, e, b, a], [c, d, b, e, a], [c, d, b, a, e], [e, c, b, d, a], [c, e, b, d, a], [c, b, e, d, a], [c, b, d, e, a], [c, b, d, a, e], [e, c, b, a, d], [c, e, b, a, d], [c, b, e, a, d], [c, b, a, e, d], [c, b, a, d, e], [e, d, b, c, a], [d, e, b, c, a], [d, b, e, c, a], [d, b, c, e, a], [d, b, c, a, e], [e, b, d, c, a], [b, e, d, c, a], [b, d, e, c, a], [b, d, c, e, a], [b, d, c, a, e], [e, b, c, d, a], [b, e, c, d, a], [b, c, e, d, a], [b, c, d, e, a], [b, c, d, a, e], [e, b, c, a, d], [b, e, c, a, d], [b, c, e, a, d], [b, c, a, e, d], [b, c, a, d, e], [e, d, b, a, c], [d, e, b, a, c], [d, b, e, a, c], [d, b, a, e, c], [d, b, a, c, e], [e, b, d, a, c], [b, e, d, a, c], [b, d, e, a, c], [b, d, a, e, c], [b, d, a, c, e], [e, b, a, d, c], [b, e, a, d, c], [b, a, e, d, c], [b, a, d, e, c], [b, a, d, c, e], [e, b, a, c, d], [b, e, a, c, d], [b, a, e, c, d], [b, a, c, e, d], [b, a, c, d, e], [e, d, c, a, b], [d, e, c, a, b], [d, c, e, a, b], [d, c, a, e, b], [d, c, a, b, e], [e, c, d, a, b], [c, e, d, a, b], [c, d, e, a, b], [c, d, a, e, b], [c, d, a, b, e], [e, c, a, d, b], [c, e, a, d, b], [c, a, e, d, b], [c, a, d, e, b], [c, a, d, b, e], [e, c, a, b, d], [c, e, a, b, d], [c, a, e, b, d], [c, a, b, e, d], [c, a, b, d, e], [e, d, a, c, b], [d, e, a, c, b], [d, a, e, c, b], [d, a, c, e, b], [d, a, c, b, e], [e, a, d, c, b], [a, e, d, c, b], [a, d, e, c, b], [a, d, c, e, b], [a, d, c, b, e], [e, a, c, d, b], [a, e, c, d, b], [a, c, e, d, b], [a, c, d, e, b], [a, c, d, b, e], [e, a, c, b, d], [a, e, c, b, d], [a, c, e, b, d], [a, c, b, e, d], [a, c, b, d, e], [e, d, a, b, c], [d, e, a, b, c], [d, a, e, b, c], [d, a, b, e, c], [d, a, b, c, e], [e, a, d, b, c], [a, e, d, b, c], [a, d, e, b, c], [a, d, b, e, c], [a, d, b, c, e], [e, a, b, d, c], [a, e, b, d, c], [a, b, e, d, c], [a, b, d, e, c], [a, b, d, c, e], [e, a, b, c, d], [a, e, b, c, d], [a, b, e, c, d], [a, b, c, e, d], [a, b, c, d, e]] := by
    simp only [ordersN, List.foldl_cons, List.foldl_nil, List.flatMap_cons, List.flatMap_nil, ins0, ins1, ins2, ins3, ins4, List.cons_append, List.nil_append, List.append_nil]
  rw [h]
  unfold sumC
  simp only [codeP, pwL]
def rook (h m u f : Int) : List Int := [(5 - h) * 24, h * (5 - m) * 6, h * (m - 1) * (5 - m) * 2, h * (m - 1) * (m - 2) * (5 - u), h * (m - 1) * (m - 2) * (u - 3) - f * (h - 1) * (m - 2) * (m - 3) * (u - 4), f * (h - 1) * (m - 2) * (m - 3) * (u - 4)]
theorem dig_of {t j lo c hi : Nat} (hs : t = lo + j * (c + 1000 * hi)) (hl : lo < j) (hc : c < 1000) : dig t j = c := by
  unfold dig
  rw [hs, Nat.add_mul_div_left _ _ (by omega), Nat.div_eq_of_lt hl, Nat.zero_add, Nat.add_mul_mod_self_left, Nat.mod_eq_of_lt hc]
theorem tally_rook {ns : List Int} (h : ns.length = 5) : tallyN (ordersN ns) = rook (cntR ns 24) (cntR ns 60) (cntR ns 1000000) (cntR ns 2) := by
  obtain ⟨a, b, c, d, e, rfl⟩ := len5 h
  have hl : (ordersN [a, b, c, d, e]).length = 120 := by rw [orders_cnt]; rfl
  obtain ⟨c0, c1, c2, c3, c4, c5, h1, h2, h3⟩ := tally_code (ordersN [a, b, c, d, e])
  rw [code_eq _ (fun o ho => (orders_len ho).trans rfl), code_sum] at h2
  rw [hl] at h3
  have ok := cl_ok a b c d e
  unfold okC at ok
  rw [← filt5 _ _ cl24, ← filt5 _ _ cl60, ← filt5 _ _ clM, ← filt5 _ _ cl2, h2] at ok
  simp only [Bool.and_eq_true, beq_iff_eq] at ok
  obtain ⟨e0, e1, e2, e3, e4, e5⟩ := ok
  unfold rook cntR
  rw [e0, e1, e2, e3, e4, e5]
  refine (h1 0 0 0 0 0 0).trans ?_
  have g0 : dig (c0 + c1 * 1000 + c2 * 1000000 + c3 * 1000000000 + c4 * 1000000000000 + c5 * 1000000000000000) 1 = c0 := dig_of (lo := 0) (hi := c1 * 1 + c2 * 1000 + c3 * 1000000 + c4 * 1000000000 + c5 * 1000000000000) (by omega) (by omega) (by omega)
  have g1 : dig (c0 + c1 * 1000 + c2 * 1000000 + c3 * 1000000000 + c4 * 1000000000000 + c5 * 1000000000000000) 1000 = c1 := dig_of (lo := c0 * 1) (hi := c2 * 1 + c3 * 1000 + c4 * 1000000 + c5 * 1000000000) (by omega) (by omega) (by omega)
  have g2 : dig (c0 + c1 * 1000 + c2 * 1000000 + c3 * 1000000000 + c4 * 1000000000000 + c5 * 1000000000000000) 1000000 = c2 := dig_of (lo := c0 * 1 + c1 * 1000) (hi := c3 * 1 + c4 * 1000 + c5 * 1000000) (by omega) (by omega) (by omega)
  have g3 : dig (c0 + c1 * 1000 + c2 * 1000000 + c3 * 1000000000 + c4 * 1000000000000 + c5 * 1000000000000000) 1000000000 = c3 := dig_of (lo := c0 * 1 + c1 * 1000 + c2 * 1000000) (hi := c4 * 1 + c5 * 1000) (by omega) (by omega) (by omega)
  have g4 : dig (c0 + c1 * 1000 + c2 * 1000000 + c3 * 1000000000 + c4 * 1000000000000 + c5 * 1000000000000000) 1000000000000 = c4 := dig_of (lo := c0 * 1 + c1 * 1000 + c2 * 1000000 + c3 * 1000000000) (hi := c5 * 1) (by omega) (by omega) (by omega)
  have g5 : dig (c0 + c1 * 1000 + c2 * 1000000 + c3 * 1000000000 + c4 * 1000000000000 + c5 * 1000000000000000) 1000000000000000 = c5 := dig_of (lo := c0 * 1 + c1 * 1000 + c2 * 1000000 + c3 * 1000000000 + c4 * 1000000000000) (hi := 0) (by omega) (by omega) (by omega)
  rw [g0, g1, g2, g3, g4, g5]
  simp only [Int.zero_add]
end Mine
end
section
open PySem PySem.W PyProof.Rows
set_option maxRecDepth 100000
set_option maxHeartbeats 8000000
set_option rowWalk.seconds 0
namespace Mine
local macro_rules | `(tactic| walk_at "my stop") => `(tactic| ((fail_if_success (with_reducible show wpAny _ _ (pyIter _) (fun it s₂ => LoopAtV _ _ _ _ _ _ _ _ _ it s₂) _ _)); (fail_if_success (with_reducible show wpAny _ _ (pyIter _) (fun it s₂ => LoopAtT _ _ _ _ _ _ _ _ _ it s₂) _ _)); (fail_if_success (with_reducible show wpAny _ _ (call (Value.ref _) _ _) _ _ _)); (fail_if_success (with_reducible show wpAny _ _ (eval (Expr.ListComp _ _ _ _) _) _ _ _)); skip))
local macro_rules | `(tactic| k_steps) => `(tactic| repeat' (first | (k_unfold; (try dsimp only)) | (k_end; wrow_close) | (walk_at "my stop"; walk1) | (walk_at "my stop"; dsimp only; walk1) | (leave1; walk_say "STEP leave1"; try dsimp only) | (exfalso; (rename (_ : Int) ≠ _ => hQq); exact absurd rfl hQq) | fail "no step"))
local macro_rules | `(tactic| walk_at "call builtin:sum") => `(tactic| (k_here; (with_reducible show wpAny _ _ (call (Value.builtin "sum") [Value.ref _]) _ _ _); (with_unfolding_all refine' sum_led ?k0 ?k1 ?k2 ?k3 ?k4 ?_; (case k0 => with_unfolding_all rfl); (case k1 => k_asm); (case k2 => k_asm); (case k3 => k_mem); (case k4 => first | assumption | exact IntsAre.pick (by assumption) _ _ _); k_whole); intro h' tk' t' F' N'))
local macro_rules | `(tactic| walk_at "mem tail") => `(tactic| (intro p hp; repeat (first | exact hp | refine List.Mem.tail _ ?_)))
local macro_rules | `(tactic| walk_at "mem all") => `(tactic| repeat' (first | exact List.forall_mem_nil _ | (refine List.forall_mem_cons.mpr ⟨?_, ?_⟩) | k_mem | walk_at "mem tail"))
local macro_rules | `(tactic| k_all) => `(tactic| assumption)
local macro_rules | `(tactic| walk_at "off all") => `(tactic| repeat' (first | exact List.forall_mem_nil _ | (refine List.forall_mem_cons.mpr ⟨?_, ?_⟩) | k_ne))
local macro_rules | `(tactic| walk_at "exec Try") => `(tactic| (refine wpAny_Try_except ?_))
local macro_rules | `(tactic| walk_at "call builtin:len") => `(tactic| (k_here; (rename Got _ _ _ _ _ => gX); (with_reducible show wpAny _ _ (call (Value.builtin "len") [Value.ref _]) _ _ _); (refine' len_got2 ?k1 ?k2 ?_; (case k1 => k_asm); (case k2 => got_up))))
local macro_rules | `(tactic| walk_at "call builtin:list.index") => `(tactic| (k_here; (first
  | (refine' index_list_strs 0 ?k1 ?k2 ?k3 ?k4 ?k5 ?_; (case k1 => is_list); (case k2 => exact .cons _ _ (.cons _ _ (.cons _ _ (.cons _ _ (.cons _ _ .nil))))); (case k3 => exact Nat.le_of_ble_eq_true rfl); (case k4 => exact rfl); (case k5 => exact rfl))
  | (refine' index_list_strs 1 ?k1 ?k2 ?k3 ?k4 ?k5 ?_; (case k1 => is_list); (case k2 => exact .cons _ _ (.cons _ _ (.cons _ _ (.cons _ _ (.cons _ _ .nil))))); (case k3 => exact Nat.le_of_ble_eq_true rfl); (case k4 => exact rfl); (case k5 => exact rfl))
  | (refine' index_list_strs 2 ?k1 ?k2 ?k3 ?k4 ?k5 ?_; (case k1 => is_list); (case k2 => exact .cons _ _ (.cons _ _ (.cons _ _ (.cons _ _ (.cons _ _ .nil))))); (case k3 => exact Nat.le_of_ble_eq_true rfl); (case k4 => exact rfl); (case k5 => exact rfl))
  | (refine' index_list_strs 3 ?k1 ?k2 ?k3 ?k4 ?k5 ?_; (case k1 => is_list); (case k2 => exact .cons _ _ (.cons _ _ (.cons _ _ (.cons _ _ (.cons _ _ .nil))))); (case k3 => exact Nat.le_of_ble_eq_true rfl); (case k4 => exact rfl); (case k5 => exact rfl))
  | (refine' index_list_strs 4 ?k1 ?k2 ?k3 ?k4 ?k5 ?_; (case k1 => is_list); (case k2 => exact .cons _ _ (.cons _ _ (.cons _ _ (.cons _ _ (.cons _ _ .nil))))); (case k3 => exact Nat.le_of_ble_eq_true rfl); (case k4 => exact rfl); (case k5 => exact rfl)))))
local macro_rules | `(tactic| walk_at "subscriptTail Attribute Name Constant ref int") => `(tactic| (k_here; (rename Got _ _ _ _ _ => gX); refine item_tupleT (Got.isTup (by assumption) (by got_up)) (by omega) (by omega) (by rfl) (by rfl) ?_))
local macro_rules | `(tactic| walk_at "binaryOp Mult int int") => `(tactic| ((with_reducible refine mul_int ?_ (by first | exact PySem.IntMulOk.of_right (PySem.intBits_le_64 (by omega) (by omega)) | exact PySem.IntMulOk.of_left (PySem.intBits_le_64 (by omega) (by omega)))); (try dsimp only)))
local macro_rules | `(tactic| walk_at "binaryOp Sub int int") => `(tactic| ((with_reducible refine sub_int ?_); (try dsimp only)))
local macro_rules | `(tactic| walk_at "units") => `(tactic| ((try simp only [units_deeper, units_in1, units_caller, cLine_is]); decide))
theorem ints_at {its : Array Value} {ns : List Int} (h : IntsAre its.toList ns) {i : Nat} {v : Value} (hv : its[i]? = some v) : ∃ z t, v = .int z t := by
  have hm : v ∈ its.toList := by
    have := List.mem_of_getElem? (show its.toList[i]? = some v by simpa using hv)
    exact this
  clear hv
  generalize its.toList = l at *
  induction h with
  | nil => cases hm
  | cons z t _ ih =>
    rcases List.mem_cons.mp hm with rfl | hm
    · exact ⟨_, _, rfl⟩
    · exact ih hm
theorem law_holds : PySem.Challenge.rw_km0086_02.Holds := Mine.hd (by
  k_go0; (all_goals try k_fold); k_steps
  rename IsRange _ _ _ _ _ _ _ _ => R1
  rename News _ _ _ _ => N1
  rename Fr _ _ _ _ => F1
  refine nm2 N1 ?_
  intro l5 le e1 e2
  subst e1 e2
  refine nmF F1 ?_
  intro m₀ em
  refine nmT N1 ?_
  intro rest er
  refine j_range 5 (fun i m nw => ∃ (its : Array Value) (ns : List Int) (c : Nat), ns.length = i ∧ IntsAre its.toList ns ∧ (∀ z, z ∉ (["k", "x"] : List Str) → m z = m₀ z) ∧ nw = (l5, W.listOf its c) :: rest) rfl R1 (by decide) (by decide) F1 N1 ?_ ?_ ?_
  · subst em er
    exact ⟨#[], [], 0, rfl, IntsAre.nil, fun _ _ => rfl, rfl⟩
  · rintro i t m₁ nw h tk I oI hi ⟨its, ns, c, hlen, hints, hm, rfl⟩ hoff F2 N2
    have em₁ := map_but _ hm
    rw [em₁] at F2
    clear em₁
    subst er em
    dsimp only [envOfC] at F2 N2
    have hvl : its.size = i := (by have := hints.length; simpa using this.trans hlen)
    clear F1 N1
    have hoff' := allNe_of hoff
    have hlt' := news_lt N2
    simp only [AllNe, AllLt, and_true] at hoff' hlt'
    clear hoff
    k_steps
    all_goals (
      dsimp only [JPost]
      (with_reducible rename Fr _ _ _ _ => FE)
      (with_reducible rename News _ _ _ _ => NE)
      refine' JEnd.intro _ FE NE ?hI ?hn ?ho ⟨_, ns ++ [_], _, ?h1, ?h2, ?h3, rfl⟩
      case hn => walk_at "mem all"
      case hI => k_mem
      case ho => walk_at "off all"
      case h1 => simp [hlen]
      case h2 => exact intsAre_push hints
      case h3 =>
        intro z hz
        simp only [List.mem_cons, List.not_mem_nil, or_false, not_or] at hz
        simp only [hz.1, hz.2, if_false, List.mem_cons, List.not_mem_nil, or_false]
        rfl)
  rintro m' nw h tk ⟨its, ns, c, hlen, hints, hm, rfl⟩ F2 N2
  have em₁ := map_but _ hm
  rw [em₁] at F2
  clear em₁
  subst er em
  dsimp only [envOfC] at F2 N2
  have hvl : its.size = 5 := (by have := hints.length; simpa using this.trans hlen)
  clear F1 N1
  have hlt' := news_lt N2
  simp only [AllNe, AllLt, and_true] at hlt'
  (try dsimp only)
  k_steps
  rename Below _ _ _ _ => B3
  rename Fr _ _ _ _ => F3
  rename News _ _ _ _ => N3
  rename Top _ _ _ _ _ _ => T3
  rename Frag.In _ _ => X3
  refine orders_call B3 F3 X3 N3 T3 rfl rfl rfl (by k_room) rfl (by walk_at "units") (l := l5) (.tail _ (.head _)) hints hlen ?_
  intro h4 tk4 D refs cD nw' F4 N4 hsub hD hP
  refine nm1 N3 ?_
  intro lt e1
  subst e1
  refine nm4 N3 ?_
  intro lw e1
  subst e1
  have hlt6 := hsub _ (.head _)
  dsimp only
  k_steps
  have hlen120 : (ordersN ns).length = 120 := by
    obtain ⟨a, b, c, d, e, rfl⟩ := len5 hlen
    rw [orders_cnt]; rfl
  have hDlt : D ≠ lt := by
    rintro rfl
    have q := listOf_inj (news_uniq N4 hD hlt6)
    have q2 := hP.length
    rw [q, hlen120] at q2
    cases q2
  refine nmF F4 ?_
  intro m₁ em
  obtain ⟨rest, N5, hr1, hr2⟩ := led_split N4 hlt6
  have hDr := hr2 _ hD hDlt
  have hl5 := hr2 _ (hsub _ (.tail _ (.head _))) (show l5 ≠ lt by k_ne)
  have hc5 := hr2 _ (hsub _ (.tail _ (.tail _ (.tail _ (.tail _ (.head _)))))) (by k_ne)
  have hw5 := hr2 _ (hsub _ (.tail _ (.tail _ (.tail _ (.head _))))) (show lw ≠ lt by k_ne)
  refine j_list (items := refs) (c := cD) (fun i m nw => ∃ (tv : Array Value) (tns : List Int) (ct : Nat), nw = (lt, W.listOf tv ct) :: rest ∧ IntsAre tv.toList tns ∧ tns = tallyN ((ordersN ns).take i) ∧ (∀ z, z ∉ (["order", "told", "fault", "place"] : List Str) → m z = m₁ z))
    rfl (fun i m nw ⟨_, _, _, e, _⟩ => e ▸ .tail _ hDr) F4 N5 ?_ ?_ ?_
  · subst em
    exact ⟨_, _, _, rfl, .cons _ _ (.cons _ _ (.cons _ _ (.cons _ _ (.cons _ _ (.cons _ _ .nil))))), rfl, fun _ _ => rfl⟩
  · rintro i v m₂ nw h tk I oI hi hv ⟨tv, tns, ct, rfl, htv, htn, hm₂⟩ hoff F6 N6
    obtain ⟨o, ho, a, oits, co, rfl, ha, hio⟩ := pairedGet hP (show refs.toList[i]? = some v by simpa using hv)
    have ho5 : o.length = 5 := (orders_len (List.mem_of_getElem? ho)).trans hlen
    have halt : a ≠ lt := by
      rintro rfl
      have q := listOf_inj (news_uniq N4 ha hlt6)
      have q2 := hio.length
      rw [q, ho5] at q2
      cases q2
    have har := hr2 _ ha halt
    obtain ⟨n1, n2, n3, n4, n5, rfl⟩ := len5 ho5
    have htl : tns.length = 6 := by rw [htn, tallyN_len]
    obtain ⟨c1, c2, c3, c4, c5, c6, rfl⟩ := len6 htl
    obtain ⟨u1, u2, u3, u4, u5, u6, etv⟩ := ints6 htv
    have etv' : tv = #[.int c1 u1, .int c2 u2, .int c3 u3, .int c4 u4, .int c5 u5, .int c6 u6] := by rw [← Array.toArray_toList (xs := tv), etv]
    subst etv'
    obtain ⟨t1, t2, t3, t4, t5, eo⟩ := ints5 hio
    have eo' : oits = #[.int n1 t1, .int n2 t2, .int n3 t3, .int n4 t4, .int n5 t5] := by rw [← Array.toArray_toList (xs := oits), eo]
    subst eo'
    have em₁ := map_but _ hm₂
    rw [em₁] at F6
    clear em₁
    subst em
    dsimp only [envOfC] at F6 N6
    have N7 := news_cons (news_cons N6 (.tail _ (.tail _ har))) (.tail _ (.tail _ (.tail _ hw5)))
    have hI1 : @Ne Nat lt I := hoff _ (.head _)
    have hI2 : @Ne Nat a I := hoff _ (.tail _ har)
    have hI3 : @Ne Nat lw I := hoff _ (.tail _ hw5)
    have hI4 : @Ne Nat a lt := halt
    have hI5 : ∀ p ∈ rest, p.1 ≠ I := fun p hp => hoff p (.tail _ hp)
    have hlt' := news_lt N7
    simp only [AllLt] at hlt'
    clear N6 N5 N4 F4 F3 N3 hoff
    k_steps
    rename Below _ _ _ _ => B8
    rename Fr _ _ _ _ => F8
    rename News _ _ _ _ => N8
    refine ctf (a := n1) (b := n2) (c := n3) (d := n4) (e := n5) B8 F8 X3 N8 T3 rfl rfl rfl (by k_room) rfl (by walk_at "units") ?_ ?_
    · intro h9 D9 tk9 hb9 F9 N9 l9
      simp only [AllLt] at l9
      dsimp only
      k_steps
      (with_reducible rename Fr _ _ _ _ => FL)
      (with_reducible rename News _ _ _ _ => NL)
      refine ListComp_none (ax := D9) FL NL rfl ?_ (.inl (.tail _ (.head _))) (Nat.le_of_ble_eq_true rfl) (by with_unfolding_all rfl) (by decide) (by with_unfolding_all rfl) (by decide) (by with_unfolding_all rfl) (by intro _; with_unfolding_all rfl) ?_ ?_
      · intro Q' hQ'
        k_steps
        exact hQ'
      · intro i5 v5 I5 oI5 C5 oC5 D5 m5 h5 tk5 E5 hv5 hC5 hm5 FC NC
        obtain ⟨z5, t5', rfl⟩ := ints_at (ns := [n1, n2, n3, n4, n5]) (.cons _ _ (.cons _ _ (.cons _ _ (.cons _ _ (.cons _ _ .nil))))) hv5
        k_steps
        all_goals (
          (with_reducible rename Fr _ _ _ _ => FT)
          (with_reducible rename News _ _ _ _ => NT)
          refine TestOff.intro FT NT (by walk_at "mem all"))
      · intro D6 h6 tk6 F10 N10 o10
        simp only [LCg.Off1, and_true] at o10
        dsimp only
        k_steps
        all_goals (
          (with_reducible rename Fr _ _ _ _ => FB)
          (with_reducible rename News _ _ _ _ => NB)
          (with_reducible rename IntsAre _ _ => IB)
          dsimp only [JPost]
          refine' JEnd.intro _ FB NB ?hI ?hn ?ho ⟨_, _, _, rfl, ?h1, ?h2, ?h3⟩
          case hn => walk_at "mem all"
          case hI => k_mem
          case ho => exact List.forall_mem_cons.mpr ⟨hI1, hI5⟩
          case h1 => exact IB
          case h2 => rw [tallyN_snoc ho, ← htn]; simp only [bad5L, hb9]; rfl
          case h3 =>
            intro z hz
            simp only [List.mem_cons, List.not_mem_nil, or_false, not_or] at hz
            simp only [hz.1, hz.2.1, hz.2.2.1, hz.2.2.2, if_false, List.mem_cons, List.not_mem_nil, or_false]
            try rfl)
    · intro k9 x9 g9 h9 e9 tt9 tk9 tk9' tx9 hb9 hk9 hx9 F9 R9 U9
      refine caught_KBX B8 F9 U9 R9 (topRead_of T3) X3 (by k_is) (by boot_by_name) PySem.F.isExc_ValueError PySem.F.notTuple_ValueError (by rw [isSubtype_type]; kernel_rfl) ?_
      intro hA newsA tkA FA NA GA NB
      obtain ⟨oe, ot, NM, GM⟩ := got_join NA GA NB
      clear NA NB GA
      have hofL := got_off NM GM (x := lt) (.tail _ (.tail _ (.tail _ (.tail _ (.tail _ (.head _)))))) rfl (by decide)
      have hk9' : k9 = 0 ∨ k9 = 1 ∨ k9 = 2 ∨ k9 = 3 ∨ k9 = 4 := by omega
      have hltA := news_lt NM
      simp only [AllLt] at hltA
      rcases hk9' with rfl | rfl | rfl | rfl | rfl
      all_goals
        cases hx9
        k_steps
        dsimp only
        (with_reducible rename Fr _ _ _ _ => FB)
        (with_reducible rename News _ _ _ _ => NB)
        (with_reducible rename IntsAre _ _ => IB)
        refine name_goes_X FB NB ?_
        intro hC vC FC NC
        dsimp only [JPost]
        refine' JEnd.intro _ FC NC ?hI ?hn ?ho ⟨_, _, _, rfl, ?h1, ?h2, ?h3⟩
        case hn => walk_at "mem all"
        case hI => k_mem
        case ho => exact List.forall_mem_cons.mpr ⟨hI1, hI5⟩
        case h1 => exact IB
        case h2 => rw [tallyN_snoc ho, ← htn]; simp only [bad5L, hb9]; rfl
        case h3 =>
          intro z hz
          simp only [List.mem_cons, List.not_mem_nil, or_false, not_or] at hz
          simp only [hz.1, hz.2.1, hz.2.2.1, hz.2.2.2, if_false, List.mem_cons, List.not_mem_nil, or_false]
          try rfl
  rintro m' nw h tk ⟨tv, tns, ct, rfl, htv, htn, hm₂⟩ F6 N6
  have hsz : refs.size = 120 := by
    have := hP.length
    simpa using this.trans hlen120
  have em₁ := map_but _ hm₂
  rw [em₁] at F6
  clear em₁
  subst em
  dsimp only [envOfC] at F6 N6
  clear N5 N4 F4 F3 N3
  have htl : tns.length = 6 := by rw [htn, tallyN_len]
  rw [hsz, List.take_of_length_le (Nat.le_of_eq hlen120)] at htn
  obtain ⟨c1, c2, c3, c4, c5, c6, rfl⟩ := len6 htl
  obtain ⟨u1, u2, u3, u4, u5, u6, etv⟩ := ints6 htv
  have etv' : tv = #[.int c1 u1, .int c2 u2, .int c3 u3, .int c4 u4, .int c5 u5, .int c6 u6] := by rw [← Array.toArray_toList (xs := tv), etv]
  subst etv'
  (try dsimp only)
  k_steps
  (with_reducible rename Fr _ _ _ _ => FK)
  (with_reducible rename News _ _ _ _ => NK)
  refine ListComp_K (cl := [(("five" : Str), _)]) FK rfl (by with_unfolding_all rfl) rfl (by intro n; with_unfolding_all rfl) (by intro h; with_unfolding_all rfl) (by decide) (by with_unfolding_all rfl) (by intro _; with_unfolding_all rfl) ?_
  k_steps
  (with_reducible rename Fr _ _ _ _ => FS)
  (with_reducible rename News _ _ _ _ => NS)
  refine nm1 NS ?_
  intro la e1
  subst e1
  refine ⟨fun i ys nw => nw = _ ∧ IntsAre ys ((([24, 60, 1000000, 2] : List Int).take i).map fun z => (cntR ns z : Int)), la, _, _, _, rfl, FS, NS, .head _, Nat.le_of_ble_eq_true rfl, ⟨rfl, .nil⟩, fun i ys nw q => q.1 ▸ .head _, ?_, ?_⟩
  · rintro i v ys nw h tk I oI K oK C oC D E' hv ⟨rfl, hys⟩ hoK F N off ne
    obtain ⟨z, t, hz, rfl⟩ := ints_get (ns := [24, 60, 1000000, 2]) (.cons _ _ (.cons _ _ (.cons _ _ (.cons _ _ .nil)))) (show _ = some v by simpa using hv)
    clear hv FS NS
    dsimp only
    k_steps
    refine' ListComp_filt (cl := [(("size" : Str), K)]) (ax := l5) (items := its) (n := c) (inR z) F N ?k0 ?_ ?k1 ?k2 ?k3 ?k4 ?k5 ?k6 ?k7 ?k8 ?k9 ?_ ?_
    case k0 => rfl
    case k1 => exact (.tail _ (.tail _ (.tail _ (.tail _ (.tail _ (.tail _ hl5))))))
    case k2 => rw [hvl]; exact Nat.le_of_ble_eq_true rfl
    case k4 => decide
    case k5 => rfl
    case k6 => decide
    case k7 => rfl
    case k8 => decide
    case k3 => with_unfolding_all rfl
    case k9 => intro _; with_unfolding_all rfl
    · intro Q' hQ'
      refine' PySem.W.lcf_cell N ?q1 (.tail _ (.tail _ (.tail _ (.tail _ (.tail _ (.tail _ hc5)))))) (by assumption) hQ' ?q2 ?q3
      case q1 => rfl
      case q2 => rfl
      case q3 => with_unfolding_all rfl
    · intro i5 v5 ys5 I5 oI5 C5 oC5 D5 m5 h5 tk5 E5 hv5 hC5 hm5 FC NC
      obtain ⟨z5, t5', hz5, rfl⟩ := ints_get hints (show its.toList[i5]? = some v5 by simpa using hv5)
      k_steps
      all_goals (
        (with_reducible rename Fr _ _ _ _ => FT)
        (with_reducible rename News _ _ _ _ => NT)
        refine TestIs.intro ?_ FT NT (by walk_at "mem all")
        simp only [inR, *, decide_true, decide_false, Bool.true_and, Bool.false_and, Bool.and_self])
    · intro D5 h5 tk5 FC NC o5
      obtain ⟨fl, efl⟩ : ∃ fl, fl = its.toList.filter (inR z) := ⟨_, rfl⟩
      rw [← efl] at NC
      dsimp only
      walk1
      refine PySem.W.kun_lenL (k := (cntR ns z : Int)) ⟨_, (NC _ (.head _)).1, rfl, _, rfl⟩ ?_ ?_ ?_
      · rw [efl, List.size_toArray, filter_cnt hints]
      · have := cntR_le ns z
        omega
      · refine CEnd2.intro FC NC _ (fun p hp => .tail _ hp) off ⟨rfl, ?_⟩
        rw [List.take_add_one, hz, List.map_append]
        exact hys.append (.cons _ _ .nil)
  rintro D h tk ys nw FD ND oD ⟨rfl, hys⟩ hyl
  replace hys : IntsAre ys [(cntR ns 24 : Int), (cntR ns 60 : Int), (cntR ns 1000000 : Int), (cntR ns 2 : Int)] := hys
  obtain ⟨q1, q2, q3, q4, rfl⟩ := ints4 hys
  clear hys hyl NS FS
  have hb1 : (0 : Int) ≤ (cntR ns 24 : Int) ∧ (cntR ns 24 : Int) ≤ 5 := by
    have := cntR_le ns 24
    omega
  have hb2 : (0 : Int) ≤ (cntR ns 60 : Int) ∧ (cntR ns 60 : Int) ≤ 5 := by
    have := cntR_le ns 60
    omega
  have hb3 : (0 : Int) ≤ (cntR ns 1000000 : Int) ∧ (cntR ns 1000000 : Int) ≤ 5 := by
    have := cntR_le ns 1000000
    omega
  have hb4 : (0 : Int) ≤ (cntR ns 2 : Int) ∧ (cntR ns 2 : Int) ≤ 5 := by
    have := cntR_le ns 2
    omega
  have hfin : [c1, c2, c3, c4, c5, c6] = rook (cntR ns 24) (cntR ns 60) (cntR ns 1000000) (cntR ns 2) := htn.trans (tally_rook hlen)
  clear htn
  dsimp only
  (generalize (cntR ns 24 : Int) = nh at *)
  (generalize (cntR ns 60 : Int) = nm at *)
  (generalize (cntR ns 1000000 : Int) = nu at *)
  (generalize (cntR ns 2 : Int) = nf at *)
  have oD' := allNe_of oD
  simp only [AllNe] at oD'
  k_steps
  unfold rook at hfin
  first
  | rw [decide_eq_true hfin]
  | simp only [hfin, decide_true]
  k_steps)
end Mine
end
theorem PySem.Challenge.cw_km0086_02_holds : PySem.Challenge.rw_km0086_02.Holds := by
  exact Mine.law_holds
