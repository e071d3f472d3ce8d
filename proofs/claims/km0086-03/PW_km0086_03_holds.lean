import PyProof.Rows.All
import Wide.All
import OpenK.AllK
import Wide.FinOn
import PySem.Challenge.RW_km0086_03
set_option Elab.async false
section
open PySem PySem.W PyProof.Rows
set_option maxRecDepth 100000
set_option maxHeartbeats 8000000
namespace Mine
open_top hd for PySem.Challenge.rw_km0086_03
end Mine
end
section
open PySem PySem.W PyProof.Rows PySem.Calls
set_option maxRecDepth 100000
namespace Mine
section
variable {prog : Program} {w : World} {A : Around} {E : Value → Shared → Prop} {s : Shared} {env : Env} {h₀ : Heap} {x : Str} {body : List Stmt} {Q : Flow → Shared → Prop}

/-- the end of a turn: the ledger holds the iterator, and what the word speaks of -/
def JEnd (h₀ : Heap) (L : Addr) (J : (Str → Option Value) → List (Addr × Obj) → Prop) (I : Addr) (oI : Obj) (s₁ s₂ : Shared) : Prop :=
  ∃ h' tk m' news' nx, s₂ = { s₁ with heap := h', toks := tk } ∧ Fr h₀ L h' m' ∧ News h₀ L h' news' ∧ (I, oI) ∈ news' ∧ (∀ p ∈ nx, p ∈ news') ∧ (∀ p ∈ nx, p.1 ≠ I) ∧ J m' nx
def JPost (h₀ : Heap) (L : Addr) (J : (Str → Option Value) → List (Addr × Obj) → Prop) (I : Addr) (oI : Obj) (s₁ : Shared) (Q : Flow → Shared → Prop) (f : Flow) (s₂ : Shared) : Prop :=
  match f with
  | .ret v => Q (.ret v) s₂
  | .brk => Q .next s₂
  | _ => JEnd h₀ L J I oI s₁ s₂
theorem JEnd.intro {L : Addr} {J : (Str → Option Value) → List (Addr × Obj) → Prop} {m' : Str → Option Value} {I : Addr} {oI : Obj} {news' : List (Addr × Obj)} (nx : List (Addr × Obj)) {s₁ : Shared} {h' : Heap} {tk : Nat} (F : Fr h₀ L h' m') (N : News h₀ L h' news')
    (hI : (I, oI) ∈ news') (hn : ∀ p ∈ nx, p ∈ news') (ho : ∀ p ∈ nx, p.1 ≠ I) (hj : J m' nx) : JEnd h₀ L J I oI s₁ { s₁ with heap := h', toks := tk } :=
  ⟨h', tk, m', news', nx, rfl, F, N, hI, hn, ho, hj⟩

theorem j_loop {I : Addr} {fp : List Addr} {n : Nat} {P : Nat → Value → Prop} {St : Nat → Heap → Prop} {m₀ : Str → Option Value} {news : List (Addr × Obj)}
    (J : Nat → (Str → Option Value) → List (Addr × Obj) → Prop) (dep : List (Addr × Obj))
    (W : Walks prog w A I fp [I] n P St) (hI : h₀.get? I = none) (hIf : I ∈ fp) (hIo : ∀ i h, St i h → ∃ o, h.get? I = some o) (hLf : env.locals ∉ fp) (hnI : ∀ p ∈ news, p.1 ≠ I) (hst : St 0 s.heap)
    (F : Fr h₀ env.locals s.heap m₀) (N : News h₀ env.locals s.heap news) (hj : J 0 m₀ news)
    (hdep : ∀ i m nw, J i m nw → ∀ p ∈ dep, p ∈ nw) (hfp : ∀ b ∈ fp, b = I ∨ (∃ o, h₀.get? b = some o) ∨ ∃ o, (b, o) ∈ dep)
    (turn : ∀ i v m₁ nw h tk oI, i < n → P i v → J i m₁ nw → (∀ p ∈ nw, p.1 ≠ I) → Fr h₀ env.locals h (fun y => if y = x then some v else m₁ y) → News h₀ env.locals h ((I, oI) :: nw) →
      wpAny (model prog w) A (execs body env) (JPost h₀ env.locals (J (i + 1)) I oI { s with heap := h, toks := tk } Q) E { s with heap := h, toks := tk })
    (done : ∀ m' nw h tk, J n m' nw → Fr h₀ env.locals h m' → News h₀ env.locals h nw → Q .next { s with heap := h, toks := tk }) :
    LoopAtV prog w A h₀ env x body Q E (.ref I) s := by
  refine ⟨I, fp, [I], n, P, St, m₀, news, J, rfl, W, hLf, (fun b hb => by rw [List.mem_singleton.mp hb]; exact hI), (fun p hp hq => hnI p hp (List.mem_singleton.mp hq)), hst, F, N, hj, ?_, ?_⟩
  · rintro i v m₁ nw s₁ own ⟨hh', tk', rfl⟩ hin hP hJ hoff hown hget hall hst₁ F₁ N₁
    obtain ⟨oI, hoI⟩ := hIo _ _ hst₁
    have hIown : (I, oI) ∈ own := hall I hIf hI _ hoI
    have hoff' : ∀ p ∈ nw, p.1 ≠ I := fun p hp e => hoff p hp (List.mem_singleton.mpr e)
    have N₂ : News h₀ env.locals hh' ((I, oI) :: nw) := fun p hp => by
      rcases List.mem_cons.mp hp with rfl | hp
      · exact N₁ _ (List.mem_append_left _ hIown)
      · exact N₁ _ (List.mem_append_right _ hp)
    refine wpAny_mono (turn i v m₁ nw hh' tk' oI hin hP hJ hoff' F₁ N₂) (fun f s₂ p => ?_) fun _ _ e => e
    have fin : JEnd h₀ env.locals (J (i + 1)) I oI { s with heap := hh', toks := tk' } s₂ → LoopStepU h₀ env.locals [I] own (J (i + 1)) { s with heap := hh', toks := tk' } .next s₂ := by
      rintro ⟨h', tk, m', news', nx, e, F', N', hi, hn, ho, hm⟩
      refine ⟨rfl, h', tk, m', nx, e, F', fun p hp => ?_, fun p hp hq => ho p hp (List.mem_singleton.mp hq), hm⟩
      rcases List.mem_append.mp hp with hp | hp
      · have h2 : hh'.get? p.1 = some p.2 := hget p hp
        rcases hfp p.1 (hown p hp) with h1 | ⟨o, h1⟩ | ⟨o, h1⟩
        · have h3 : p = (I, oI) := by
            rw [h1] at h2
            exact Prod.ext h1 (Option.some.inj (h2.symm.trans hoI))
          rw [h3]; exact N' _ hi
        · have := (N₁ p (List.mem_append_left _ hp)).2.2
          rw [h1] at this; cases this
        · have h4 := hdep _ _ _ hJ _ h1
          have h5 := (N₂ _ (List.mem_cons_of_mem _ h4)).1
          have h3 : p = (p.1, o) := Prod.ext rfl (Option.some.inj (h2.symm.trans h5))
          rw [h3]
          exact N' _ (hn _ (hdep _ _ _ hm _ h1))
      · exact N' _ (hn p hp)
    cases f with
    | ret v => exact .ret p
    | brk => exact .brk p
    | next => exact .next (fin p)
    | cont => exact .cont (fin p)
  · rintro h' tk m' news' F' N' _ hJ
    exact done m' news' h' tk hJ F' N'

theorem j_range {r : Addr} {a₀ b₀ c : Int} {t₀ u₀ v₀ : Tok} {m₀ : Str → Option Value} {news : List (Addr × Obj)} (n : Nat)
    (J : Nat → (Str → Option Value) → List (Addr × Obj) → Prop)
    (hh : A.handled = none) (hr : IsRange s.heap r a₀ b₀ c t₀ u₀ v₀) (hsmall : Builtin.Range.small a₀ b₀ c = true) (hn : Builtin.Range.rangeSize a₀ b₀ c = (n : Int))
    (F : Fr h₀ env.locals s.heap m₀) (N : News h₀ env.locals s.heap news) (hj : J 0 m₀ news)
    (turn : ∀ i t m₁ nw h tk I oI, i < n → J i m₁ nw → (∀ p ∈ nw, p.1 ≠ I) → Fr h₀ env.locals h (fun y => if y = x then some (.int (a₀ + (i : Int) * c) t) else m₁ y) → News h₀ env.locals h ((I, oI) :: nw) →
      wpAny (model prog w) A (execs body env) (JPost h₀ env.locals (J (i + 1)) I oI { s with heap := h, toks := tk } Q) E { s with heap := h, toks := tk })
    (done : ∀ m' nw h tk, J n m' nw → Fr h₀ env.locals h m' → News h₀ env.locals h nw → Q .next { s with heap := h, toks := tk }) :
    wpAny (model prog w) A (pyIter (.ref r)) (fun it s₂ => LoopAtV prog w A h₀ env x body Q E it s₂) E s := by
  refine wpAny_pyIter_range hr hsmall ?_
  have hnew := next_is_new F
  refine j_loop J [] (Walks.range hh _ a₀ c n) hnew (List.mem_singleton.mpr rfl) (fun i h st => ⟨_, st⟩) ?_ ?_ (by show IsRangeIter _ _ _ _ _; rw [hn]; simpa using Heap.get?_push_size _ rfl) (F.push _) (fun p hp => ⟨Heap.get?_push_of_some _ (N p hp).1, (N p hp).2⟩) hj
    (fun _ _ _ _ p hp => nomatch hp) (fun b hb => .inl (List.mem_singleton.mp hb)) ?_ done
  · intro hm
    exact absurd F.ns.lt ((List.mem_singleton.mp hm) ▸ Nat.lt_irrefl _)
  · intro p hp hI
    exact absurd (Heap.lt_size (N p hp).1) (hI ▸ Nat.lt_irrefl _)
  · rintro i v m₁ nw h tk oI hin ⟨t, rfl⟩ hJ hoff F₁ N₁
    exact turn i t m₁ nw h tk _ oI hin hJ hoff F₁ N₁

theorem j_list {l : Addr} {items : Array Value} {c : Nat} {m₀ : Str → Option Value} {news : List (Addr × Obj)}
    (J : Nat → (Str → Option Value) → List (Addr × Obj) → Prop)
    (hh : A.handled = none) (hl : ∀ i m nw, J i m nw → (l, listOf items c) ∈ nw)
    (F : Fr h₀ env.locals s.heap m₀) (N : News h₀ env.locals s.heap news) (hj : J 0 m₀ news)
    (turn : ∀ i v m₁ nw h tk I oI, i < items.size → items[i]? = some v → J i m₁ nw → (∀ p ∈ nw, p.1 ≠ I) → Fr h₀ env.locals h (fun y => if y = x then some v else m₁ y) → News h₀ env.locals h ((I, oI) :: nw) →
      wpAny (model prog w) A (execs body env) (JPost h₀ env.locals (J (i + 1)) I oI { s with heap := h, toks := tk } Q) E { s with heap := h, toks := tk })
    (done : ∀ m' nw h tk, J items.size m' nw → Fr h₀ env.locals h m' → News h₀ env.locals h nw → Q .next { s with heap := h, toks := tk }) :
    wpAny (model prog w) A (pyIter (.ref l)) (fun it s₂ => LoopAtV prog w A h₀ env x body Q E it s₂) E s := by
  have hm := hl _ _ _ hj
  have hls : s.heap.IsList l items := ⟨_, (N _ hm).1, rfl, c, rfl⟩
  have hlt : l < s.heap.objs.size := Heap.lt_size (N _ hm).1
  refine wpAny_pyIter_list hls ?_
  have hnew := next_is_new F
  refine j_loop J [(l, listOf items c)] (Walks.list hh _ l (Nat.ne_of_lt hlt) items) hnew (by simp) (fun i h st => let ⟨⟨o, ho, _⟩, _⟩ := st; ⟨o, ho⟩) ?_ ?_ ⟨⟨_, Heap.get?_push_size _ rfl, rfl, rfl⟩, hls.at fun o e => Heap.get?_push_of_some _ e⟩ (F.push _) (fun p hp => ⟨Heap.get?_push_of_some _ (N p hp).1, (N p hp).2⟩) hj
    (fun _ _ _ q p hp => by rw [List.mem_singleton.mp hp]; exact hl _ _ _ q) (fun b hb => ?_) ?_ done
  · intro hm'
    rcases List.mem_cons.mp hm' with e | e
    · exact absurd F.ns.lt (e ▸ Nat.lt_irrefl _)
    · exact (N _ hm).2.1 (List.mem_singleton.mp e).symm
  · intro p hp hI
    exact absurd (Heap.lt_size (N p hp).1) (hI ▸ Nat.lt_irrefl _)
  · rcases List.mem_cons.mp hb with e | e
    · exact .inl e
    · exact .inr (.inr ⟨_, by rw [List.mem_singleton.mp e]; exact .head _⟩)
  · rintro i v m₁ nw h tk oI hin hP hJ hoff F₁ N₁
    exact turn i v m₁ nw h tk _ oI hin hP hJ hoff F₁ N₁
end
/-- names that may have been turned: their values are forgotten -/
theorem map_but (ys : List Str) {m m₀ : Str → Option Value} (h : ∀ z, z ∉ ys → m z = m₀ z) : m = fun z => if z ∈ ys then m z else m₀ z := by
  funext z; by_cases hz : z ∈ ys
  · simp only [if_pos hz]
  · simp only [if_neg hz]; exact h z hz
theorem map_at {y : Str} {v : Option Value} {m : Str → Option Value} (h : m y = v) : m = fun z => if z = y then v else m z := by
  funext z; by_cases hz : z = y
  · simp only [if_pos hz]; rw [hz]; exact h
  · simp only [if_neg hz]

theorem nm1 {h₀ h : Heap} {L a : Addr} {oa : Obj} {r : List (Addr × Obj)} (_ : News h₀ L h ((a, oa) :: r)) {P : Prop} (k : ∀ a', a' = a → P) : P := k a rfl
theorem nm2 {h₀ h : Heap} {L a b : Addr} {oa ob : Obj} {r : List (Addr × Obj)} (_ : News h₀ L h ((a, oa) :: (b, ob) :: r)) {P : Prop} (k : ∀ a' b', a' = a → b' = b → P) : P := k a b rfl rfl
theorem nm3 {h₀ h : Heap} {L a b c : Addr} {oa ob oc : Obj} {r : List (Addr × Obj)} (_ : News h₀ L h ((a, oa) :: (b, ob) :: (c, oc) :: r)) {P : Prop} (k : ∀ a' b' c', a' = a → b' = b → c' = c → P) : P := k a b c rfl rfl rfl
theorem nm1o {h₀ h : Heap} {L a : Addr} {oa : Obj} {r : List (Addr × Obj)} (_ : News h₀ L h ((a, oa) :: r)) {P : Prop} (k : ∀ a' o', a' = a → o' = oa → P) : P := k a oa rfl rfl
theorem nm4 {h₀ h : Heap} {L d : Addr} {a b c : Addr × Obj} {od : Obj} {r : List (Addr × Obj)} (_ : News h₀ L h (a :: b :: c :: (d, od) :: r)) {P : Prop} (k : ∀ d', d' = d → P) : P := k d rfl
theorem news_cons2 {h₀ h : Heap} {L : Addr} {a : Addr} {o : Obj} {nw : List (Addr × Obj)} (hx : h.get? a = some o ∧ a ≠ L ∧ h₀.get? a = none) (N : News h₀ L h nw) : News h₀ L h ((a, o) :: nw) := fun p hp => by
  rcases List.mem_cons.mp hp with rfl | hp
  · exact hx
  · exact N _ hp
theorem nmF {h₀ h : Heap} {L : Addr} {m : Str → Option Value} (_ : Fr h₀ L h m) {P : Prop} (k : ∀ m', m' = m → P) : P := k m rfl
theorem nmT {h₀ h : Heap} {L : Addr} {x : Addr × Obj} {r : List (Addr × Obj)} (_ : News h₀ L h (x :: r)) {P : Prop} (k : ∀ r', r' = r → P) : P := k r rfl
theorem nmN {h₀ h : Heap} {L : Addr} {r : List (Addr × Obj)} (_ : News h₀ L h r) {P : Prop} (k : ∀ r', r' = r → P) : P := k r rfl

def AllNe (I : Addr) : List (Addr × Obj) → Prop
  | [] => True
  | p :: r => @Ne Nat p.1 I ∧ AllNe I r
theorem allNe_of {I : Addr} : ∀ {l : List (Addr × Obj)}, (∀ p ∈ l, p.1 ≠ I) → AllNe I l
  | [], _ => trivial
  | p :: _, h => ⟨h p (.head _), allNe_of fun q hq => h q (.tail _ hq)⟩
theorem news_lt {h₀ h : Heap} {L : Addr} {news : List (Addr × Obj)} (N : News h₀ L h news) : AllLt h.objs.size news := allLt_of fun p hp => Heap.lt_size (N p hp).1

section
variable {prog : Program} {w : World} {A : Around} {E : Value → Shared → Prop} {s : Shared} {env : Env} {h₀ : Heap} {target : Expr} {body : List Stmt} {Q : Flow → Shared → Prop}
def JPostT (h₀ : Heap) (L : Addr) (J : (Str → Option Value) → List (Addr × Obj) → Prop) (I : Addr) (oI : Obj) (s₁ : Shared) (f : Flow) (s₂ : Shared) : Prop := f = .next ∧ JEnd h₀ L J I oI s₁ s₂
theorem j_loopT {I : Addr} {fp : List Addr} {n : Nat} {P : Nat → Value → Prop} {St : Nat → Heap → Prop} {m₀ : Str → Option Value} {news : List (Addr × Obj)}
    (J : Nat → (Str → Option Value) → List (Addr × Obj) → Prop) (dep : List (Addr × Obj))
    (W : Walks prog w A I fp [I] n P St) (hI : h₀.get? I = none) (hIf : I ∈ fp) (hIo : ∀ i h, St i h → ∃ o, h.get? I = some o) (hLf : env.locals ∉ fp) (hnI : ∀ p ∈ news, p.1 ≠ I) (hst : St 0 s.heap)
    (F : Fr h₀ env.locals s.heap m₀) (N : News h₀ env.locals s.heap news)
    (hgo : ∀ i (s' : Shared) v (Q' : Unit → Shared → Prop), St i s'.heap → Q' () s' → wpAny (model prog w) A (letOwnedTupleGo target (.ref I) v) Q' E s') (hj : J 0 m₀ news)
    (hdep : ∀ i m nw, J i m nw → ∀ p ∈ dep, p ∈ nw) (hfp : ∀ b ∈ fp, b = I ∨ (∃ o, h₀.get? b = some o) ∨ ∃ o, (b, o) ∈ dep)
    (turn : ∀ i v m₁ nw s₁ oI, i < n → P i v → J i m₁ nw → (∀ p ∈ nw, p.1 ≠ I) → Fr h₀ env.locals s₁.heap m₁ → News h₀ env.locals s₁.heap ((I, oI) :: nw) →
      wpAny (model prog w) A (assign target env v) (fun _ s₃ => wpAny (model prog w) A (execs body env) (JPostT h₀ env.locals (J (i + 1)) I oI s₁) E s₃) E s₁)
    (done : ∀ m' nw h tk, J n m' nw → Fr h₀ env.locals h m' → News h₀ env.locals h nw → Q .next { s with heap := h, toks := tk }) :
    LoopAtT prog w A h₀ env target body Q E (.ref I) s := by
  refine ⟨I, fp, [I], n, P, St, m₀, news, J, rfl, W, hLf, (fun b hb => by rw [List.mem_singleton.mp hb]; exact hI), (fun p hp hq => hnI p hp (List.mem_singleton.mp hq)), hst, F, N, hgo, hj, ?_, ?_⟩
  · rintro i v m₁ nw s₁ own hin hP hJ hoff hown hget hall hst₁ F₁ N₁
    obtain ⟨oI, hoI⟩ := hIo _ _ hst₁
    have hIown : (I, oI) ∈ own := hall I hIf hI _ hoI
    have hoff' : ∀ p ∈ nw, p.1 ≠ I := fun p hp e => hoff p hp (List.mem_singleton.mpr e)
    have N₂ : News h₀ env.locals s₁.heap ((I, oI) :: nw) := fun p hp => by
      rcases List.mem_cons.mp hp with rfl | hp
      · exact N₁ _ (List.mem_append_left _ hIown)
      · exact N₁ _ (List.mem_append_right _ hp)
    refine wpAny_mono (turn i v m₁ nw s₁ oI hin hP hJ hoff' F₁ N₂) (fun _ s₃ h₃ => wpAny_mono h₃ (fun f s₂ p => ?_) fun _ _ e => e) fun _ _ e => e
    obtain ⟨rfl, h', tk, m', news', nx, e, F', N', hi, hn, ho, hm⟩ := p
    refine ⟨rfl, h', tk, m', nx, e, F', fun p hp => ?_, fun p hp hq => ho p hp (List.mem_singleton.mp hq), hm⟩
    rcases List.mem_append.mp hp with hp | hp
    · have h2 : s₁.heap.get? p.1 = some p.2 := hget p hp
      rcases hfp p.1 (hown p hp) with h1 | ⟨o, h1⟩ | ⟨o, h1⟩
      · have h3 : p = (I, oI) := by
          rw [h1] at h2
          exact Prod.ext h1 (Option.some.inj (h2.symm.trans hoI))
        rw [h3]; exact N' _ hi
      · have := (N₁ p (List.mem_append_left _ hp)).2.2
        rw [h1] at this; cases this
      · have h4 := hdep _ _ _ hJ _ h1
        have h5 := (N₂ _ (List.mem_cons_of_mem _ h4)).1
        have h3 : p = (p.1, o) := Prod.ext rfl (Option.some.inj (h2.symm.trans h5))
        rw [h3]
        exact N' _ (hn _ (hdep _ _ _ hm _ h1))
    · exact N' _ (hn p hp)
  · rintro h' tk m' news' F' N' _ hJ
    exact done m' news' h' tk hJ F' N'

theorem j_listT {l : Addr} {items : Array Value} {c : Nat} {m₀ : Str → Option Value} {news : List (Addr × Obj)}
    (J : Nat → (Str → Option Value) → List (Addr × Obj) → Prop)
    (hh : A.handled = none) (hl : ∀ i m nw, J i m nw → (l, listOf items c) ∈ nw)
    (F : Fr h₀ env.locals s.heap m₀) (N : News h₀ env.locals s.heap news) (hj : J 0 m₀ news)
    (turn : ∀ i v m₁ nw s₁ I oI, i < items.size → items[i]? = some v → J i m₁ nw → (∀ p ∈ nw, p.1 ≠ I) → Fr h₀ env.locals s₁.heap m₁ → News h₀ env.locals s₁.heap ((I, oI) :: nw) →
      wpAny (model prog w) A (assign target env v) (fun _ s₃ => wpAny (model prog w) A (execs body env) (JPostT h₀ env.locals (J (i + 1)) I oI s₁) E s₃) E s₁)
    (done : ∀ m' nw h tk, J items.size m' nw → Fr h₀ env.locals h m' → News h₀ env.locals h nw → Q .next { s with heap := h, toks := tk }) :
    wpAny (model prog w) A (pyIter (.ref l)) (fun it s₂ => LoopAtT prog w A h₀ env target body Q E it s₂) E s := by
  have hm := hl _ _ _ hj
  have hls : s.heap.IsList l items := ⟨_, (N _ hm).1, rfl, c, rfl⟩
  have hlt : l < s.heap.objs.size := Heap.lt_size (N _ hm).1
  refine wpAny_pyIter_list hls ?_
  have hnew := next_is_new F
  refine j_loopT J [(l, listOf items c)] (Walks.list hh _ l (Nat.ne_of_lt hlt) items) hnew (by simp) (fun i h st => let ⟨⟨o, ho, _⟩, _⟩ := st; ⟨o, ho⟩) ?_ ?_ ⟨⟨_, Heap.get?_push_size _ rfl, rfl, rfl⟩, hls.at fun o e => Heap.get?_push_of_some _ e⟩ (F.push _) (fun p hp => ⟨Heap.get?_push_of_some _ (N p hp).1, (N p hp).2⟩) (fun i s' v Q' st hQ' => letGo_listiter st.1 hQ') hj
    (fun _ _ _ q p hp => by rw [List.mem_singleton.mp hp]; exact hl _ _ _ q) (fun b hb => ?_) ?_ done
  · intro hm'
    rcases List.mem_cons.mp hm' with e | e
    · exact absurd F.ns.lt (e ▸ Nat.lt_irrefl _)
    · exact (N _ hm).2.1 (List.mem_singleton.mp e).symm
  · intro p hp hI
    exact absurd (Heap.lt_size (N p hp).1) (hI ▸ Nat.lt_irrefl _)
  · rcases List.mem_cons.mp hb with e | e
    · exact .inl e
    · exact .inr (.inr ⟨_, by rw [List.mem_singleton.mp e]; exact .head _⟩)
  · rintro i v m₁ nw s₁ oI hin hP hJ hoff F₁ N₁
    exact turn i v m₁ nw s₁ _ oI hin hP hJ hoff F₁ N₁
end
theorem news_cons {h₀ h : Heap} {L : Addr} {x : Addr × Obj} {nw : List (Addr × Obj)} (N : News h₀ L h nw) (hx : x ∈ nw) : News h₀ L h (x :: nw) := fun p hp => by
  rcases List.mem_cons.mp hp with rfl | hp
  · exact N _ hx
  · exact N _ hp
theorem news_sub {h₀ h : Heap} {L : Addr} {nw nw' : List (Addr × Obj)} (N : News h₀ L h nw) (hs : ∀ p ∈ nw', p ∈ nw) : News h₀ L h nw' := fun p hp => N p (hs p hp)
end Mine
end
section
open PySem PySem.W PyProof.Rows PySem.Calls
namespace Mine
theorem kind_ix : builtinKind "_operator.index" = none := by decide +kernel
theorem plain_ix : plainId "_operator.index" = true := by decide +kernel
theorem entry_ix : entryFor table "_operator.index" = some Builtin.«_operator.index» := entryFor_of_fast (by kernel_rfl)
theorem args_ix (v : Value) : argsOk "_operator.index" ⟨[v], []⟩ := by unfold argsOk; kernel_rfl
section
variable {prog : Program} {w : World} {A : Around} {E : Value → Shared → Prop} {s : Shared}
theorem call_index_int {a : Int} {t : Tok} {Q : Value → Shared → Prop} (h : Q (.int a t) s) :
    wpAny (model prog w) A (call (.builtin "_operator.index") [.int a t]) Q E s := by
  refine call_function_entry kind_ix plain_ix entry_ix (args_ix _) ?_
  unfold Builtin.«_operator.index»
  exact wpAny_bind (wpAny_pure (wpAny_bind (wpAny_pure (wpAny_pure ⟨_, rfl, h⟩))))
end
end Mine
end
section
open PySem PySem.W PyProof.Rows PySem.Calls
set_option maxRecDepth 100000
namespace Mine
section
variable {prog : Program} {w : World} {A : Around} {E : Value → Shared → Prop} {s : Shared} {h₀ : Heap} {L t : Addr} {m : Str → Option Value} {news : List (Addr × Obj)}
/-- the sum of a list of ints of the ledger, of any length and size -/
theorem sum_led {items : Array Value} {c : Nat} {ns : List Int} {Q : Value → Shared → Prop} (hh : A.handled = none) (F : Fr h₀ L s.heap m) (N : News h₀ L s.heap news) (hm : (t, W.listOf items c) ∈ news) (hi : IntsAre items.toList ns)
    (h : ∀ h' tk t', Fr h₀ L h' m → News h₀ L h' news → Q (.int ns.sum t') { s with heap := h', toks := tk }) :
    wpAny (model prog w) A (call (.builtin "sum") [.ref t]) Q E s := by
  have hl : s.heap.IsList t items := ⟨_, (N _ hm).1, rfl, c, rfl⟩
  have ha : AllInts items := by have := hi.allInts; simpa using this
  obtain ⟨xs, hx⟩ := ha.items
  have hn : numsOf items.toList = ns := hi.numsOf
  rw [hx] at hl hn
  rw [nums_intItems] at hn
  refine sum_intListG hh hl fun h' tk t' hk => ?_
  have := h h' tk t' (F.keeps hk) (N.grown hk)
  rw [preSum_eq, List.take_of_length_le (by simp), hn]
  exact this
end
theorem news_uniq {h₀ h : Heap} {L a : Addr} {o o' : Obj} {nw : List (Addr × Obj)} (N : News h₀ L h nw) (h1 : (a, o) ∈ nw) (h2 : (a, o') ∈ nw) : o = o' :=
  Option.some.inj ((N _ h1).1.symm.trans (N _ h2).1)
theorem listOf_inj {a b : Array Value} {c d : Nat} (h : W.listOf a c = W.listOf b d) : a = b := by
  simp only [W.listOf, Obj.mk.injEq, Data.seq.injEq] at h
  exact h.2.2.1.1
theorem ints5 {vs : List Value} {a b c d e : Int} (h : IntsAre vs [a, b, c, d, e]) : ∃ t1 t2 t3 t4 t5, vs = [.int a t1, .int b t2, .int c t3, .int d t4, .int e t5] := by
  obtain ⟨t1, v1, e1, h1⟩ := h.cons_inv
  obtain ⟨t2, v2, e2, h2⟩ := h1.cons_inv
  obtain ⟨t3, v3, e3, h3⟩ := h2.cons_inv
  obtain ⟨t4, v4, e4, h4⟩ := h3.cons_inv
  obtain ⟨t5, v5, e5, h5⟩ := h4.cons_inv
  have e6 := h5.nil_inv
  subst e6 e5 e4 e3 e2 e1
  exact ⟨_, _, _, _, _, rfl⟩
theorem ints6 {vs : List Value} {a b c d e f : Int} (h : IntsAre vs [a, b, c, d, e, f]) : ∃ t1 t2 t3 t4 t5 t6, vs = [.int a t1, .int b t2, .int c t3, .int d t4, .int e t5, .int f t6] := by
  obtain ⟨t1, v1, e1, h1⟩ := h.cons_inv
  obtain ⟨t2, t3, t4, t5, t6, e2⟩ := ints5 h1
  subst e2 e1
  exact ⟨_, _, _, _, _, _, rfl⟩
theorem len6 {ns : List Int} (h : ns.length = 6) : ∃ a b c d e f, ns = [a, b, c, d, e, f] := by
  rcases ns with _ | ⟨a, _ | ⟨b, _ | ⟨c, _ | ⟨d, _ | ⟨e, _ | ⟨f, _ | ⟨g, r⟩⟩⟩⟩⟩⟩⟩ <;> simp only [List.length_cons, List.length_nil] at h <;> first | omega | exact ⟨_, _, _, _, _, _, rfl⟩
theorem len5 {ns : List Int} (h : ns.length = 5) : ∃ a b c d e, ns = [a, b, c, d, e] := by
  rcases ns with _ | ⟨a, _ | ⟨b, _ | ⟨c, _ | ⟨d, _ | ⟨e, _ | ⟨f, r⟩⟩⟩⟩⟩⟩ <;> simp only [List.length_cons, List.length_nil] at h <;> first | omega | exact ⟨_, _, _, _, _, rfl⟩
theorem led_split {h₀ h : Heap} {L t : Addr} {o : Obj} {nw : List (Addr × Obj)} (N : News h₀ L h nw) (hm : (t, o) ∈ nw) : ∃ rest, News h₀ L h ((t, o) :: rest) ∧ (∀ p ∈ rest, p.1 ≠ t) ∧ (∀ p ∈ nw, p.1 ≠ t → p ∈ rest) :=
  ⟨nw.filter fun p => decide (p.1 ≠ t), fun p hp => by
    rcases List.mem_cons.mp hp with rfl | hp
    · exact N _ hm
    · exact N _ (List.mem_filter.mp hp).1, fun p hp => of_decide_eq_true (List.mem_filter.mp hp).2, fun p hp hq => List.mem_filter.mpr ⟨hp, decide_eq_true hq⟩⟩
section
open PySem.SeqAt
variable {prog : Program} {w : World} {A : Around} {E : Value → Shared → Prop} {s : Shared} {h₀ : Heap} {L : Addr} {m : Str → Option Value} {news : List (Addr × Obj)}
theorem isStrOf_at (k : Str) : ∀ {vs : List Value} {ys : List Str}, StrsAre vs ys → ∀ (j : Nat) (h1 : j < vs.length) (h2 : j < ys.length), isStrOf k vs[j] = (ys[j] == k)
  | _, _, .cons n t _, 0, _, _ => rfl
  | _, _, .cons n t r, j + 1, h1, h2 => isStrOf_at k r j (Nat.lt_of_succ_lt_succ h1) (Nat.lt_of_succ_lt_succ h2)
theorem strsLen : ∀ {vs : List Value} {ys : List Str}, StrsAre vs ys → vs.length = ys.length
  | _, _, .nil => rfl
  | _, _, .cons _ _ r => by simp [strsLen r]
/-- the place of a text in a list of texts -/
theorem index_list_strs {l : Addr} {vs : List Value} {ys : List Str} {k : Str} {t : Tok} {Q : Value → Shared → Prop} (j : Nat) (hl : s.heap.IsList l vs.toArray) (hi : StrsAre vs ys)
    (hsz : vs.length ≤ 1000) (hk : ys[j]? = some k) (hno : (ys.take j).all (fun y => !(y == k)) = true) (h : Q (.int (j : Nat) s.toks) { s with toks := s.toks + 1 }) :
    wpAny (model prog w) A (call (.builtin "list.index") [.ref l, .str k t]) Q E s := by
  obtain ⟨⟨cls, dd, data, sl⟩, ho, hc, n, hd⟩ := id hl
  simp only at hc hd
  subst hc hd
  have hlen := strsLen hi
  obtain ⟨hj, hjk⟩ := List.getElem?_eq_some_iff.mp hk
  refine call_meets PySem.F.slot_list_index ⟨_, ho, rfl⟩ PySem.F.entry_list_index (PySem.F.args_list_index_2 _ _)
    (list_indexAt l vs.toArray n dd sl (.str k t) (isStrOf k) j (by simpa [hlen] using hj) (by omega) ?_ ?_) ⟨ho, fun y hy => (eq_isStrOf k t hi y (by simpa using hy)).at _ _, h⟩
  · show isStrOf k vs[j] = true
    rw [isStrOf_at k hi _ (by omega) hj, hjk]; simp
  · intro i his hlt
    show isStrOf k vs[i] = false
    rw [isStrOf_at k hi i (by simpa using his) (by omega)]
    have := List.all_eq_true.mp hno (ys[i]'(by omega)) (by
      rw [List.mem_take_iff_getElem]
      exact ⟨i, by omega, rfl⟩)
    simpa using this
theorem len_got2 {nA : List (Addr × Obj)} {e t : Addr} {cls v1 v2 : Value} {Q : Value → Shared → Prop} (N : News h₀ L s.heap nA) (G : Got nA e t cls [v1, v2]) (h : Q (.int 2 (s.toks + 1)) { s with toks := s.toks + 1 + 1 }) :
    wpAny (model prog w) A (call (.builtin "len") [.ref t]) Q E s := len_tuple (Got.isTup N G) (by simp) h
end
end Mine
end
section
open PySem PySem.W PyProof.Rows PySem.Calls
set_option maxRecDepth 100000
namespace Mine
theorem noIdx_none : typeLookup (.type "NoneType") "__index__" = pure none := by rw [typeLookup_type, builtinLookup_eq_fast]; kernel_rfl
theorem noIdx_str : typeLookup (.type "str") "__index__" = pure none := by rw [typeLookup_type, builtinLookup_eq_fast]; kernel_rfl
theorem noIdx_bytes : typeLookup (.type "bytes") "__index__" = pure none := by rw [typeLookup_type, builtinLookup_eq_fast]; kernel_rfl
theorem noIdx_list : typeLookup (.type "list") "__index__" = pure none := by rw [typeLookup_type, builtinLookup_eq_fast]; kernel_rfl
theorem noIdx_tuple : typeLookup (.type "tuple") "__index__" = pure none := by rw [typeLookup_type, builtinLookup_eq_fast]; kernel_rfl
theorem noIdx_dict : typeLookup (.type "dict") "__index__" = pure none := by rw [typeLookup_type, builtinLookup_eq_fast]; kernel_rfl
theorem noIdx_float : typeLookup (.type "float") "__index__" = pure none := by rw [typeLookup_type, builtinLookup_eq_fast]; kernel_rfl
section
variable {prog : Program} {w : World} {A : Around} {E : Value → Shared → Prop} {s : Shared}
theorem call_index_bool {b : Bool} {Q : Value → Shared → Prop} (h : Q (.int (if b then 1 else 0) s.toks) { s with toks := s.toks + 1 }) :
    wpAny (model prog w) A (call (.builtin "_operator.index") [.bool b]) Q E s := by
  refine call_function_entry kind_ix plain_ix entry_ix (args_ix _) ?_
  unfold Builtin.«_operator.index»
  refine wpAny_bind (wpAny_pure ?_)
  show wpAny _ _ (do rule "_operator.index.copy"; retInt _) _ _ _
  refine wpAny_bind (wpAny_rule ?_)
  unfold retInt
  refine wpAny_bind (wpAny_mkInt (wpAny_pure ?_))
  exact ⟨_, rfl, h⟩
theorem cut_is {v : Value} {T : String} {n : Nat} {Q : String → Shared → Prop} (hT : s.TypeIs v T) (hb : (Value.type T == Value.type "builtin_function_or_method") = false) (hn : typeNameCut n (.type T) = pure T) (h : Q T s) : wpAny (model prog w) A (typeNameOfCut n v) Q E s := by
  unfold typeNameOfCut shownTypeOf
  refine wpAny_bind (wpAny_bind (wpAny_typeOf hT ?_))
  simp only [hb, Bool.false_eq_true, if_false]
  refine wpAny_pure ?_
  rw [hn]
  exact wpAny_pure h
theorem index_bad {v : Value} {T : String} {Q : Value → Shared → Prop} (hv : ∀ i t, v ≠ .int i t) (hi : ∀ Q' : Option Int → Shared → Prop, Q' none s → wpAny (model prog w) A.in1 (asInt? v) Q' E s) (hT : s.TypeIs v T) (h0 : typeLookup (.type T) "__index__" = pure none) (hb : (Value.type T == Value.type "builtin_function_or_method") = false) (hn : typeNameCut 200 (.type T) = pure T) (hl : ((s!"'{T}' object cannot be interpreted as an integer" : String) : Str).length ≤ sizeLine) (hh : A.handled = none)
    (h : ∀ h' tk e, Heap.NewExc s.heap h' e "TypeError" → E (.ref e) { s with heap := h', toks := tk }) :
    wpAny (model prog w) A (call (.builtin "_operator.index") [v]) Q E s := by
  refine call_function_entry kind_ix plain_ix entry_ix (args_ix _) ?_
  unfold Builtin.«_operator.index»
  refine wpAny_bind (wpAny_pure ?_)
  split
  · rename_i i t
    exact absurd rfl (hv i t)
  · refine wpAny_bind (hi _ ?_)
    refine wpAny_bind (wpAny_callSpecial?_none hT h0 ?_)
    refine wpAny_bind (wpAny_rule ?_)
    refine wpAny_bind (cut_is hT hb hn ?_)
    exact wpAny_raiseErrorMade plainExc_TypeError hh h hl
theorem index_none {Q : Value → Shared → Prop} (hh : A.handled = none) (h : ∀ h' tk e, Heap.NewExc s.heap h' e "TypeError" → E (.ref e) { s with heap := h', toks := tk }) :
    wpAny (model prog w) A (call (.builtin "_operator.index") [.none]) Q E s :=
  index_bad (T := "NoneType") (fun _ _ e => by cases e) (fun _ q => wpAny_pure q) rfl noIdx_none (by decide) (by rfl) (by size_fits) hh h
theorem index_str {x : Str} {t : Tok} {Q : Value → Shared → Prop} (hh : A.handled = none) (h : ∀ h' tk e, Heap.NewExc s.heap h' e "TypeError" → E (.ref e) { s with heap := h', toks := tk }) :
    wpAny (model prog w) A (call (.builtin "_operator.index") [.str x t]) Q E s :=
  index_bad (T := "str") (fun _ _ e => by cases e) (fun _ q => wpAny_pure q) rfl noIdx_str (by decide) (by rfl) (by size_fits) hh h
theorem index_bytes {x : Array UInt8} {t : Tok} {Q : Value → Shared → Prop} (hh : A.handled = none) (h : ∀ h' tk e, Heap.NewExc s.heap h' e "TypeError" → E (.ref e) { s with heap := h', toks := tk }) :
    wpAny (model prog w) A (call (.builtin "_operator.index") [.bytes x t]) Q E s :=
  index_bad (T := "bytes") (fun _ _ e => by cases e) (fun _ q => wpAny_pure q) rfl noIdx_bytes (by decide) (by rfl) (by size_fits) hh h
theorem index_float {x : UInt64} {t : Tok} {Q : Value → Shared → Prop} (hh : A.handled = none) (h : ∀ h' tk e, Heap.NewExc s.heap h' e "TypeError" → E (.ref e) { s with heap := h', toks := tk }) :
    wpAny (model prog w) A (call (.builtin "_operator.index") [.float x t]) Q E s :=
  index_bad (T := "float") (fun _ _ e => by cases e) (fun _ q => wpAny_pure q) rfl noIdx_float (by decide) (by rfl) (by size_fits) hh h
theorem index_list {a : Addr} {o : Obj} {its : Array Value} {n : Nat} {Q : Value → Shared → Prop} (ho : s.heap.get? a = some o) (hc : o.cls = .type "list") (hd : o.data = .seq its n) (hh : A.handled = none) (h : ∀ h' tk e, Heap.NewExc s.heap h' e "TypeError" → E (.ref e) { s with heap := h', toks := tk }) :
    wpAny (model prog w) A (call (.builtin "_operator.index") [.ref a]) Q E s :=
  index_bad (T := "list") (fun _ _ e => by cases e) (fun _ q => by
    unfold asInt?
    refine wpAny_bind (wpAny_load ho ?_)
    rw [hd]
    exact wpAny_pure q) ⟨o, ho, hc⟩ noIdx_list (by decide) (by rfl) (by size_fits) hh h
theorem index_tuple {a : Addr} {o : Obj} {its : Array Value} {n : Nat} {Q : Value → Shared → Prop} (ho : s.heap.get? a = some o) (hc : o.cls = .type "tuple") (hd : o.data = .seq its n) (hh : A.handled = none) (h : ∀ h' tk e, Heap.NewExc s.heap h' e "TypeError" → E (.ref e) { s with heap := h', toks := tk }) :
    wpAny (model prog w) A (call (.builtin "_operator.index") [.ref a]) Q E s :=
  index_bad (T := "tuple") (fun _ _ e => by cases e) (fun _ q => by
    unfold asInt?
    refine wpAny_bind (wpAny_load ho ?_)
    rw [hd]
    exact wpAny_pure q) ⟨o, ho, hc⟩ noIdx_tuple (by decide) (by rfl) (by size_fits) hh h
theorem index_dict {a : Addr} {o : Obj} {es : Array DictEntry} {n : Nat} {Q : Value → Shared → Prop} (ho : s.heap.get? a = some o) (hc : o.cls = .type "dict") (hd : o.data = .dict es n) (hh : A.handled = none) (h : ∀ h' tk e, Heap.NewExc s.heap h' e "TypeError" → E (.ref e) { s with heap := h', toks := tk }) :
    wpAny (model prog w) A (call (.builtin "_operator.index") [.ref a]) Q E s :=
  index_bad (T := "dict") (fun _ _ e => by cases e) (fun _ q => by
    unfold asInt?
    refine wpAny_bind (wpAny_load ho ?_)
    rw [hd]
    exact wpAny_pure q) ⟨o, ho, hc⟩ noIdx_dict (by decide) (by rfl) (by size_fits) hh h
end
end Mine
end
section
open PySem PySem.W PyProof.Rows PySem.Calls PySem.SeqAt
set_option maxRecDepth 100000
namespace Mine
open AutoSeq1 (wpAny_loadPart')
theorem slot_bytes_eq_r : Slot "bytes" (cmpInfo .Eq).2.2 "bytes.__eq__" :=
  .of (owner := "bytes") (n := "__eq__") (by rw [typeLookup_type, builtinLookup_eq_fast]; kernel_rfl) (by decide +kernel) (by decide +kernel) (by decide +kernel)
    (by first | exact .inl (by decide +kernel) | exact .inr (by decide +kernel)) (by rw [isSubtype_type]; kernel_rfl)
theorem int_eq_bytes (a : Int) (t : Tok) (b : Array UInt8) (u : Tok) : Gives (Builtin.«int.__eq__» ⟨[.int a t, .bytes b u], []⟩) (.val (Value.notImplemented)) :=
  .of_wp fun M A E s Q h => by obtain ⟨hp, g, d, tk, os⟩ := s; wp_walk; exact ⟨_, rfl, h⟩
theorem bytes_eq_int (b : Array UInt8) (u : Tok) (a : Int) (t : Tok) : Gives (Builtin.«bytes.__eq__» ⟨[.bytes b u, .int a t], []⟩) (.val (Value.notImplemented)) :=
  .of_wp fun M A E s Q h => by obtain ⟨hp, g, d, tk, os⟩ := s; have f1 : isSubtype (.type "int") (.type "bytes") = pure false := (by rw [isSubtype_type]; kernel_rfl); wp_walk; exact ⟨_, rfl, h⟩
theorem int_eq_dict (b : Int) (u : Tok) (l : Addr) (es : Array DictEntry) (n : Nat) (dd : Option Addr) (sl : Array (Option Value)) :
    Meets (Builtin.«int.__eq__» ⟨[.int b u, .ref l], []⟩) (fun _ R s => s.heap.get? l = some { cls := .type "dict", dict := dd, data := .dict es n, slots := sl } ∧ R (.ok (.ret .notImplemented)) s) :=
  .of_wp fun prog w A R s h => by obtain ⟨hp, g, d, tk, os⟩ := s; obtain ⟨hl, h⟩ := h; wp_walk using wpAny_loadPart' hl, wpAny_load hl; exact ⟨_, rfl, h⟩
theorem dict_eq_int (l : Addr) (es : Array DictEntry) (n : Nat) (dd : Option Addr) (sl : Array (Option Value)) (b : Int) (u : Tok) :
    Meets (Builtin.«dict.__eq__» ⟨[.ref l, .int b u], []⟩) (fun _ R s => s.heap.get? l = some { cls := .type "dict", dict := dd, data := .dict es n, slots := sl } ∧ R (.ok (.ret .notImplemented)) s) :=
  .of_wp fun prog w A R s h => by obtain ⟨hp, g, d, tk, os⟩ := s; obtain ⟨hl, h⟩ := h; have f1 := F.sub_int_dict; wp_walk using wpAny_loadPart' hl, wpAny_load hl; exact ⟨_, rfl, h⟩
section
variable {M : Model} {A : Around} {s : Shared}
theorem eqAt_int_bytes (a : Int) (t : Tok) (b : Array UInt8) (u : Tok) : EqAt A s (.int a t) (.bytes b u) false := fun prog w E Q h => by
  unfold eqBool
  refine wpAny_holding ?_
  refine wpAny_ite_split (fun hab => absurd (eq_of_beq hab) nofun) (fun _ => ?_)
  refine wpAny_bind ?_
  exact rc_eq_decline_or (k := false) (typeIs_int s a t) (show s.TypeIs (.bytes b u) "bytes" from rfl) (by decide) F.sub_bytes_int F.slot_int_eq slot_bytes_eq_r
    (fun _ hq => call_gives F.slot_int_eq (typeIs_int s a t) F.entry_int_eq (F.args_int_eq_2 _ _) (int_eq_bytes a t b u) hq)
    (fun _ hq => call_gives slot_bytes_eq_r (show s.TypeIs (.bytes b u) "bytes" from rfl) FB.entry_bytes_eq (FB.args_bytes_eq_2 _ _) (bytes_eq_int b u a t) hq)
    (fun _ hq => wpAny_of_eq (rfl : isSame (.int a t) (.bytes b u) = pure false) hq) (.inl rfl) (wpAny_truthy_bool h)
theorem eqAt_int_dict {l : Addr} {o : Obj} {es : Array DictEntry} {n : Nat} (b : Int) (u : Tok) (ho : s.heap.get? l = some o) (hc : o.cls = .type "dict") (hd : o.data = .dict es n) (hu : A.units < cLine) : EqAt A s (.int b u) (.ref l) false := fun prog w E Q h => by
  obtain ⟨cls, dd, data, sl⟩ := o
  simp only at hc hd
  subst hc hd
  unfold eqBool
  refine wpAny_holding ?_
  refine wpAny_ite_split (fun hab => absurd (eq_of_beq hab) nofun) (fun _ => ?_)
  refine wpAny_bind ?_
  exact rc_eq_decline_or (k := false) (typeIs_int s b u) ⟨_, ho, rfl⟩ (by decide) F.sub_dict_int F.slot_int_eq F.slot_dict_eq_refl
    (fun _ hq => call_meets F.slot_int_eq (typeIs_int s b u) F.entry_int_eq (F.args_int_eq_2 _ _) (int_eq_dict b u l es n dd sl) ⟨ho, hq⟩)
    (fun _ hq => call_meets F.slot_dict_eq_refl ⟨_, ho, rfl⟩ F.entry_dict_eq (F.args_dict_eq_2 _ _) (dict_eq_int l es n dd sl b u) ⟨ho, hq⟩)
    (fun _ hq => wpAny_of_eq (rfl : isSame (.int b u) (.ref l) = pure false) hq) (.inr hu) (wpAny_truthy_bool h)
theorem eqAt_int_float (n : Int) (u : Tok) (a : UInt64) (t : Tok) : EqAt A s (.int n u) (.float a t) (Float64.cmpInt a n == some Ordering.eq) := fun prog w E Q h => by
  unfold eqBool
  refine wpAny_holding ?_
  refine wpAny_ite_split (fun hab => absurd (eq_of_beq hab) nofun) (fun _ => ?_)
  refine wpAny_bind ?_
  exact eq_if (wpAny_truthy_bool h)
end
end Mine
end
section
open PySem PySem.W PyProof.Rows PySem.Calls
set_option maxRecDepth 100000
set_option maxHeartbeats 4000000
namespace Mine
theorem runs_det {M : Model} {Γ : Ctx} {p : Pos} {t : Sem Fin} {fs : List Frame} {s : Shared} {e : End} {s' : Shared} (h : Runs M Γ p t fs s e s') :
    ∀ {e₂ : End} {s₂ : Shared}, Runs M Γ p t fs s e₂ s₂ → e = e₂ ∧ s' = s₂ := by
  induction h with
  | done => intro e₂ s₂ k; cases k; exact ⟨rfl, rfl⟩
  | raise => intro e₂ s₂ k; cases k; exact ⟨rfl, rfl⟩
  | again _ _ ih => intro e₂ s₂ k; cases k with | again _ k => exact ih k
  | rule _ ih => intro e₂ s₂ k; cases k with | rule k => exact ih k
  | «at» _ ih => intro e₂ s₂ k; cases k with | «at» k => exact ih k
  | load ho _ ih =>
    intro e₂ s₂ k
    cases k with
    | load ho' k =>
      rw [ho] at ho'
      cases ho'
      exact ih k
  | update _ _ ih => intro e₂ s₂ k; cases k with | update _ k => exact ih k
  | loadIfAlive _ ih => intro e₂ s₂ k; cases k with | loadIfAlive k => exact ih k
  | point _ ih => intro e₂ s₂ k; cases k with | point k => exact ih k
  | alloc _ ih => intro e₂ s₂ k; cases k with | alloc k => exact ih k
  | fresh _ ih => intro e₂ s₂ k; cases k with | fresh k => exact ih k
  | ask _ ih => intro e₂ s₂ k; cases k with | ask k => exact ih k
  | choose _ _ ih => intro e₂ s₂ k; cases k with | choose _ k => exact ih k
  | os _ ih => intro e₂ s₂ k; cases k with | os k => exact ih k
  | handled _ ih => intro e₂ s₂ k; cases k with | handled k => exact ih k
  | genState hg _ ih =>
    intro e₂ s₂ k
    cases k with
    | genState hg' k =>
      rw [hg] at hg'
      cases hg'
      exact ih k
  | stack _ ih => intro e₂ s₂ k; cases k with | stack k => exact ih k
  | thread _ ih => intro e₂ s₂ k; cases k with | thread k => exact ih k
  | newGen _ ih => intro e₂ s₂ k; cases k with | newGen k => exact ih k
  | call _ _ ih1 ih2 =>
    intro e₂ s₂ k
    cases k with
    | call k1 k2 =>
      obtain ⟨a, b⟩ := ih1 k1
      cases a
      subst b
      exact ih2 k2
    | callSusp k1 =>
      obtain ⟨a, b⟩ := ih1 k1
      cases a
  | callSusp _ ih1 =>
    intro e₂ s₂ k
    cases k with
    | call k1 k2 =>
      obtain ⟨a, b⟩ := ih1 k1
      cases a
    | callSusp k1 =>
      obtain ⟨a, b⟩ := ih1 k1
      cases a
      exact ⟨rfl, b⟩
  | yield => intro e₂ s₂ k; cases k; exact ⟨rfl, rfl⟩
  | resumeFresh hg _ hq _ ih1 ih2 =>
    intro e₂ s₂ k
    cases k
    case resumeFresh hq' hg' k1 k2 =>
      rw [hg] at hg'
      cases hg'
      obtain ⟨a, b⟩ := ih1 k1
      subst a b
      exact ih2 k2
    all_goals (exfalso; simp_all; done)
  | resumeSuspended hg _ hq _ ih1 ih2 =>
    intro e₂ s₂ k
    cases k
    case resumeSuspended hq' hg' k1 k2 =>
      rw [hg] at hg'
      cases hg'
      obtain ⟨a, b⟩ := ih1 k1
      subst a b
      exact ih2 k2
    all_goals (exfalso; simp_all; done)
  | resumeJustStarted hg hv _ ih =>
    intro e₂ s₂ k
    cases k
    case resumeJustStarted hg' hv' k => exact ih k
    all_goals (exfalso; simp_all; done)
  | resumeThrowFresh hg _ ih =>
    intro e₂ s₂ k
    cases k
    case resumeThrowFresh hg' k => exact ih k
    all_goals (exfalso; simp_all; done)
  | resumeRunning hg _ ih =>
    intro e₂ s₂ k
    cases k
    case resumeRunning hg' k => exact ih k
    all_goals (exfalso; simp_all; done)
  | resumeFinished hg _ ih =>
    intro e₂ s₂ k
    cases k
    case resumeFinished hg' k => exact ih k
    all_goals (exfalso; simp_all; done)
  | segRet _ _ ih1 ih2 =>
    intro e₂ s₂ k
    cases k
    case segRet k1 k2 =>
      obtain ⟨a, b⟩ := ih1 k1
      cases a
      subst b
      exact ih2 k2
    all_goals (exfalso; exact absurd (ih1 (e₂ := .susp _ _ _ _ _ _ _) (by assumption)).1 (by intro h; cases h))
  | segGen _ _ ih1 ih2 =>
    intro e₂ s₂ k
    cases k
    case segGen k1 k2 =>
      obtain ⟨a, b⟩ := ih1 k1
      cases a
      subst b
      exact ih2 k2
    all_goals (exfalso; exact absurd (ih1 (e₂ := .susp _ _ _ _ _ _ _) (by assumption)).1 (by intro h; cases h))
  | segSuspOut hs _ ih1 =>
    intro e₂ s₂ k
    cases k
    case segSuspOut hs' k1 =>
      obtain ⟨a, b⟩ := ih1 k1
      cases a
      exact ⟨rfl, b⟩
    all_goals (exfalso; first | (simp_all; done) | exact absurd (ih1 (e₂ := .ret _) (by assumption)).1 (by intro h; cases h))
  | segSuspGen hs _ hq _ ih1 ih2 =>
    intro e₂ s₂ k
    cases k
    case segSuspGen hq' hs' k1 k2 =>
      rw [hs] at hs'
      cases hs'
      obtain ⟨a, b⟩ := ih1 k1
      cases a
      subst b
      exact ih2 k2
    all_goals (exfalso; first | (simp_all; done) | exact absurd (ih1 (e₂ := .ret _) (by assumption)).1 (by intro h; cases h))
theorem wakes_det {M : Model} {Γ : Ctx} {p : Pos} {g : Nat} {r : Resume} {s : Shared} {x y : GenResult} {s₁ s₂ : Shared} (h : Wakes M Γ p g r s x s₁) (k : Wakes M Γ p g r s y s₂) : x = y ∧ s₁ = s₂ := by
  unfold Wakes at h k
  split at h
  · exact h.elim
  · rename_i c hg
    simp only [hg] at k
    split at h
    · obtain ⟨e1, a1, h1, h2, rfl, rfl⟩ := h
      obtain ⟨e2, a2, k1, k2, rfl, rfl⟩ := k
      obtain ⟨a, b⟩ := runs_det h1 k1
      subst a b
      exact ⟨rfl, rfl⟩
    · rename_i v hv
      split at k
      · rename_i e
        exact (hv (by injection e)).elim
      · exact ⟨h.1.trans k.1.symm, h.2.trans k.2.symm⟩
      · rename_i e
        cases e
    · exact ⟨h.1.trans k.1.symm, h.2.trans k.2.symm⟩
  · rename_i hg
    simp only [hg] at k
    obtain ⟨e1, a1, h1, h2, rfl, rfl⟩ := h
    obtain ⟨e2, a2, k1, k2, rfl, rfl⟩ := k
    obtain ⟨a, b⟩ := runs_det h1 k1
    subst a b
    exact ⟨rfl, rfl⟩
  · rename_i hg
    simp only [hg] at k
    exact ⟨h.1.trans k.1.symm, h.2.trans k.2.symm⟩
  · rename_i hg
    simp only [hg] at k
    exact ⟨h.1.trans k.1.symm, h.2.trans k.2.symm⟩
open Sem (wp)
theorem wp_and {α : Type} {M : Model} {Γ : Ctx} (t : Sem α) {Q₁ Q₂ : α → Pos → Shared → Prop} {E₁ E₂ : Value → Pos → Shared → Prop} :
    ∀ {p : Pos} {s : Shared}, wp M Γ t Q₁ E₁ p s → wp M Γ t Q₂ E₂ p s → wp M Γ t (fun a p s => Q₁ a p s ∧ Q₂ a p s) (fun e p s => E₁ e p s ∧ E₂ e p s) p s := by
  induction t with
  | pure a => intro p s h k; rw [wp] at *; exact ⟨h, k⟩
  | raise e => intro p s h k; rw [wp] at *; exact ⟨h, k⟩
  | unsupported | finish | register | yield | fork | await => intro p s h k; rw [wp] at h; exact h.elim
  | rule tag k ih => intro p s h k; rw [wp] at *; exact ih _ h k
  | «at» p' k ih => intro p s h k; rw [wp] at *; exact ih _ h k
  | load a part k ih =>
    intro p s h k
    rw [wp] at *
    obtain ⟨o, ho, h⟩ := h
    obtain ⟨o', ho', k⟩ := k
    rw [ho] at ho'
    cases ho'
    exact ⟨o, ho, ih _ h k⟩
  | update a part f k ih => intro p s h k; rw [wp] at *; exact ⟨h.1, ih _ h.2 k.2⟩
  | loadIfAlive a k ih => intro p s h k; rw [wp] at *; exact ih _ h k
  | point l k ih => intro p s h k; rw [wp] at *; exact ih _ h k
  | alloc o k ih => intro p s h k; rw [wp] at *; exact ih _ h k
  | fresh k ih => intro p s h k; rw [wp] at *; exact ih _ h k
  | ask k ih => intro p s h k; rw [wp] at *; exact ih _ h k
  | choose src n k ih => intro p s h k; rw [wp] at *; exact ⟨h.1, ih _ h.2 k.2⟩
  | os q l k ih => intro p s h k; rw [wp] at *; exact ih _ h k
  | call c hd g l k ih =>
    intro p s h k
    rw [wp] at *
    obtain ⟨r, s', h1, h2⟩ := h
    obtain ⟨r', s'', k1, k2⟩ := k
    obtain ⟨a, b⟩ := runs_det h1 k1
    cases a
    subst b
    exact ⟨r, s', h1, ih _ h2 k2⟩
  | handled own k ih => intro p s h k; rw [wp] at *; exact ih _ h k
  | genState g k ih =>
    intro p s h k
    rw [wp] at *
    obtain ⟨st, ho, h⟩ := h
    obtain ⟨st', ho', k⟩ := k
    rw [ho] at ho'
    cases ho'
    exact ⟨st, ho, ih _ h k⟩
  | newGen c k ih => intro p s h k; rw [wp] at *; exact ih _ h k
  | resume g r l k ih =>
    intro p s h k
    rw [wp] at *
    obtain ⟨r, s', h1, h2⟩ := h
    obtain ⟨r', s'', k1, k2⟩ := k
    obtain ⟨a, b⟩ := wakes_det h1 k1
    subst a b
    exact ⟨r, s', h1, ih _ h2 k2⟩
  | stack k ih => intro p s h k; rw [wp] at *; exact ih _ h k
  | thread k ih => intro p s h k; rw [wp] at *; exact ih _ h k
theorem wpAny_and {α : Type} {M : Model} {A : Around} {t : Sem α} {Q₁ Q₂ : α → Shared → Prop} {E₁ E₂ : Value → Shared → Prop} {s : Shared} (h : wpAny M A t Q₁ E₁ s) (k : wpAny M A t Q₂ E₂ s) :
    wpAny M A t (fun a s => Q₁ a s ∧ Q₂ a s) (fun e s => E₁ e s ∧ E₂ e s) s := fun Γ p hΓ => wp_and t (h Γ p hΓ) (k Γ p hΓ)
end Mine
end
section
open PySem PySem.W PyProof.Rows PySem.Calls
set_option maxRecDepth 100000
namespace Mine
/-- field 2 of the exception, its context, is none -/
def C2 (h : Heap) (e : Addr) : Prop := ∃ oe ws, h.get? e = some oe ∧ oe.data = .fields ws ∧ ws[2]? = some .none
theorem C2.keeps {h h' : Heap} {e : Addr} (c : C2 h e) (k : ∀ b o, h.get? b = some o → h'.get? b = some o) : C2 h' e :=
  let ⟨oe, ws, a, b, d⟩ := c; ⟨oe, ws, k _ _ a, b, d⟩
theorem C2.same {h h' : Heap} {e : Addr} (c : C2 h e) (k : h'.get? e = h.get? e) : C2 h' e :=
  let ⟨oe, ws, a, b, d⟩ := c; ⟨oe, ws, k.trans a, b, d⟩
theorem C2.set {h : Heap} {e : Addr} (c : C2 h e) (T : Addr) (i : Nat) (x : Value) (hi : i ≠ 2) : C2 (h.update T (Obj.mapFields (·.setIfInBounds i x))) e := by
  by_cases hT : T = e
  · subst hT
    obtain ⟨oe, ws, a, b, d⟩ := c
    have hd := Obj.data_mapFields b (·.setIfInBounds i x)
    exact ⟨_, _, Heap.get?_update_self _ a (Obj.isFreed_of_fields hd), hd, by rw [Array.getElem?_setIfInBounds_ne hi]; exact d⟩
  · exact c.same (Heap.get?_update_other _ _ hT)
section
variable {M : Model} {A : Around} {E : Value → Shared → Prop} {s : Shared}
theorem newEntry_C2 {env : Env} {base : Heap} {outer : List Env} {L e : Addr} {oe : Obj} {vs : Array Value} {head : Value} {hadNext : Bool}
    (hfr : A.frames = some (env :: outer)) (hl : s.heap.FunFrames base (env :: outer)) (hf : env.frame = some L)
    (he : s.heap.get? e = some oe) (hd : oe.data = .fields vs) (hsz : 1 < vs.size) (c : C2 s.heap e) :
    wpAny M A (do let a ← frameOf env; let pl ← entryPlaceOf L hadNext; let b ← EntryCells.newEntry head a .none (rawInt L) .none pl; setField (.ref e) 1 b) (fun _ s' => C2 s'.heap e) E s := by
  have hene : e ∉ (env :: outer).filterMap (·.frame) := fun hm => by
    obtain ⟨_, o, ho, hnf⟩ := hl.mem hm
    rw [he] at ho; injection ho with ho; subst ho; exact hnf vs hd
  refine wpAny_bind (wpAny_frameOf_fun hfr hl hf fun h₁ hs₁ => ?_)
  refine wpAny_bind (wpAny_entryPlaceOf fun pl hpl => ?_)
  unfold EntryCells.newEntry newFields
  refine wpAny_bind (wpAny_newObj_type ?_ (hpl.sizeOk5 _ _ _ _ _))
  have c₁ : C2 h₁ e := c.same (hs₁.2.1 e hene)
  exact wpAny_setField (Heap.get?_push_of_some _ ((hs₁.2.1 e hene).trans he)) hd hsz ((c₁.keeps fun b o q => Heap.get?_push_of_some _ q).set _ _ _ (by decide))
theorem setFlight_C2 {base : Heap} {e : Addr} {cls a0 fl : Value} (ht : s.heap.TracedAtW base e cls a0 fl) (c : C2 s.heap e) :
    wpAny M A (setFlight (.ref e) none) (fun _ s' => C2 s'.heap e) E s := by
  obtain ⟨oe, vs, T, oT, ts, he, hcls, hd, h1, hnT, hTe, hT, hdT, h3⟩ := ht
  unfold setFlight
  refine wpAny_bind (wpAny_field he hd h1 ?_)
  rw [if_pos (show (Value.ref T != Value.none) = true from by simp)]
  exact wpAny_setField hT hdT (Array.getElem?_eq_some_iff.mp h3).1 (c.set _ _ _ (by decide))
theorem noteFrame_C2 {base : Heap} {env : Env} {outer : List Env} {L e : Addr} {cls a0 : Value}
    (hfr : A.frames = some (env :: outer)) (hl : s.heap.FunFrames base (env :: outer)) (hf : env.frame = some L) (ht : s.heap.TracedW base e cls a0) (c : C2 s.heap e) :
    wpAny M A (noteFrame (.ref e) env) (fun _ s' => C2 s'.heap e) E s := by
  obtain ⟨oe, vs, T, oT, ts, he, ⟨hcls, h0⟩, hd, h1, hnT, hTe, hT, hdT, h3⟩ := ht
  unfold noteFrame
  simp only [hf]
  refine wpAny_bind (wpAny_field he hd h1 ?_)
  rw [if_pos (show (Value.ref T != Value.none) = true from by simp)]
  refine wpAny_bind (wpAny_field hT hdT h3 ?_)
  rw [if_neg (show ¬ ((Value.none == rawInt L) = true) from by simp [rawInt])]
  refine wpAny_bind (wpAny_setField hT hdT (Array.getElem?_eq_some_iff.mp h3).1 ?_)
  have other : ∀ b, b ≠ T → (s.heap.update T (Obj.mapFields (·.setIfInBounds 3 Value.none))).get? b = s.heap.get? b := fun b hb => Heap.get?_update_other _ _ (Ne.symm hb)
  have noRecord : ∀ b o, s.heap.get? b = some o → (∀ vs, o.data ≠ .fields vs) → b ≠ T := fun b o hb hnf q => by
    rw [q, hT] at hb; injection hb with hb; subst hb; exact hnf ts hdT
  exact newEntry_C2 hfr (hl.of_keeps fun b o hb hnf => ⟨o, (other b (noRecord b o hb hnf)).trans hb, rfl⟩) hf ((other e (Ne.symm hTe)).trans he) hd (Array.getElem?_eq_some_iff.mp h1).1 (c.set _ _ _ (by decide))
/-- the frame that made the exception is left -/
theorem leaving_C2 {base : Heap} {env : Env} {outer : List Env} {L e : Addr} {oe : Obj} {vs : Array Value} {a0 : Value}
    (hfr : A.frames = some (env :: outer)) (hl : s.heap.FunFrames base (env :: outer)) (hf : env.frame = some L) (hkb : base.StaysIn s.heap) (hen : base.get? e = none)
    (he : s.heap.get? e = some oe) (hd : oe.data = .fields vs) (h1 : vs[1]? = some .none) (h0 : vs[0]? = some a0) (h2 : vs[2]? = some .none) :
    wpAny M A (leaving env (.ref e)) (fun _ s' => C2 s'.heap e) E s := by
  have c : C2 s.heap e := ⟨oe, vs, he, hd, h2⟩
  unfold leaving noteFrame
  simp only [hf]
  refine wpAny_bind (wpAny_bind (wpAny_field he hd h1 ?_))
  rw [if_neg (by decide)]
  have hsz := (Array.getElem?_eq_some_iff.mp h1).1
  refine wpAny_mono (wpAny_and (wpAny_entryW (E := E) (Q := fun _ s' => ∃ h', s' = { s with heap := h' } ∧ Heap.NotedW base (env :: outer) e oe.cls a0 (rawInt L) s.heap h') hfr hl hf he hkb hen hd hsz h0 fun h' hn => ⟨h', rfl, hn⟩) (newEntry_C2 (E := E) hfr hl hf he hd hsz c))
    (fun _ s' q => ?_) fun _ _ q => q.1
  obtain ⟨⟨h', rfl, hN⟩, c'⟩ := q
  exact setFlight_C2 hN.2.2.1 c'
end
section
variable {M : Model} {A : Around} {E : Value → Shared → Prop} {s' : Shared} {base g h : Heap} {outer : List Env} {L a e : Addr} {m : Str → Option Value} {name : Str} {scope : Scope} {cd : Value} {Q : Unit → Shared → Prop} {news : List (Addr × Obj)}
theorem leave_raiseC {cls : Value} {vs : List Value} (K : Below A base outer g) (hx : Heap.MadeExcOf h s'.heap e cls vs) (F : Fr g L h m) (N : News g L h news)
    (hQ : ∀ h' t, RaisedS base g outer e cls t vs news h' → g.UpToSlots h' → C2 h' e → Q () { s' with heap := h' }) (hk : scope.kind = .function := by rfl) :
    wpAny M (A.deeper (envOf name scope L a cd)) (leaving (envOf name scope L a cd) (.ref e)) Q E s' := by
  have K' := K.push (name := name) (a := a) (cd := cd) F hk
  obtain ⟨t, he, htn, ht⟩ := hx.there
  have fresh : base.get? e = none := by
    cases hq : base.get? e with
    | none => rfl
    | some o' => have := K'.stays e o' hq; rw [hx.new] at this; cases this
  refine wpAny_mono (wpAny_and (leave_raiseS (E := E) (Q := fun _ s₂ => ∃ h' t, s₂ = { s' with heap := h' } ∧ RaisedS base g outer e cls t vs news h' ∧ g.UpToSlots h') K hx F N (fun h' t R _ U => ⟨h', t, rfl, R, U⟩) hk)
    (leaving_C2 (E := E) (a0 := .ref t) K'.stack (K'.frames.of_keeps fun b o hb _ => ⟨o, hx.keeps b o hb, rfl⟩) rfl (fun b o hb => hx.keeps b o (K'.stays b o hb)) fresh he rfl rfl rfl rfl)) (fun _ s₂ q => ?_) fun _ _ q => q.1
  obtain ⟨⟨h', t', rfl, R, U⟩, c⟩ := q
  exact hQ h' t' R U c
end
section
variable {prog : Program} {w : World} {A₀ : Around} {E : Value → Shared → Prop} {s' : Shared} {base g g₀ G : Heap} {outer : List Env} {L a e t : Addr} {m : Str → Option Value} {name : Str} {scope : Scope} {cd cls : Value} {vs : List Value} {news : List (Addr × Obj)}
  {KF : Frag} {p : Program} {loose : List Str} {mean : ExcName → Option Value} {mg mb : Str → Option Value} {tt : Expr} {n : Str} {nm : Option Str} {b₀ : Stmt} {suite body : List Stmt} {pos : Pos} {rest hs : List ExceptHandler} {Q : Flow → Shared → Prop}
theorem lookC (R : RaisedS base G (envOf name scope L a cd :: outer) e cls t vs news s'.heap) (c : C2 s'.heap e) (K : Below A₀ base outer g) (hsm : G.UpToSlots s'.heap)
    (k : ∀ h', RaisedS base G (envOf name scope L a cd :: outer) e cls t vs news h' → G.UpToSlots h' → C2 h' e → wpAny (model prog w) (A₀.deeper (envOf name scope L a cd)) (handleBy (.ref e) (envOf name scope L a cd) hs) Q E { s' with heap := h' }) :
    wpAny (model prog w) (A₀.deeper (envOf name scope L a cd)) (noteFrame (.ref e) (envOf name scope L a cd))
      (fun _ s₂ => wpAny (model prog w) (A₀.deeper (envOf name scope L a cd)) (setFlight (.ref e) none) (fun _ s₃ =>
        wpAny (model prog w) (A₀.deeper (envOf name scope L a cd)) (handleBy (.ref e) (envOf name scope L a cd) hs) Q E s₃) E s₂) E s' := by
  obtain ⟨⟨B, hB, hBG, hl, hfl, hnew⟩, htup⟩ := R
  refine wpAny_mono (wpAny_and (wpAny_looks_onW (E := E) (Q := fun _ s₂ => ∃ h', s₂ = { s' with heap := h' } ∧ Heap.HeldW B (envOf name scope L a cd :: outer) e cls (.ref t) L h' ∧ s'.heap.UpToSlots h') (Around.frames_deeper K.stack) rfl hfl fun h' a b => ⟨h', rfl, a, b⟩)
    (noteFrame_C2 (E := E) (Around.frames_deeper K.stack) hfl.2.2.1 rfl hfl.2.2.2 c)) (fun _ s₂ q => ?_) fun _ _ q => q.1
  obtain ⟨⟨h₄, rfl, hheld₄, hsm₄⟩, c₄⟩ := q
  refine wpAny_mono (wpAny_and (wpAny_landsW (E := E) (Q := fun _ s₃ => ∃ h', s₃ = { s' with heap := h' } ∧ Heap.FlyingW B (envOf name scope L a cd :: outer) e cls (.ref t) h' ∧ h₄.UpToSlots h') hheld₄ fun h' a b => ⟨h', rfl, a, b⟩)
    (setFlight_C2 (E := E) hheld₄.2.2.2 c₄)) (fun _ s₃ q => ?_) fun _ _ q => q.1
  obtain ⟨⟨h₅, rfl, hfl₅, hsm₅⟩, c₅⟩ := q
  exact k h₅ ⟨⟨B, hB, hBG, hl, hfl₅, hnew⟩, htup.of_slots (hsm₄.trans hsm₅)⟩ (hsm.trans (hsm₄.trans hsm₅)) c₅
theorem passC (R : RaisedS base G (envOf name scope L a cd :: outer) e cls t vs news s'.heap) (c : C2 s'.heap e) (F : Fr g L G m) (K : Below A₀ base outer g) (hsm : G.UpToSlots s'.heap) (XB : KF.In base) (TB : Top p loose mean mg mb base)
    (T : KtsTest prog w KF p loose mg mb name scope L a cd cls tt false)
    (k : ∀ h', RaisedS base G (envOf name scope L a cd :: outer) e cls t vs news h' → G.UpToSlots h' → C2 h' e → wpAny (model prog w) (A₀.deeper (envOf name scope L a cd)) (handleBy (.ref e) (envOf name scope L a cd) rest) Q E { s' with heap := h' }) :
    wpAny (model prog w) (A₀.deeper (envOf name scope L a cd)) (handleBy (.ref e) (envOf name scope L a cd) (.ExceptHandler (some tt) nm body pos :: rest)) Q E s' := by
  obtain ⟨⟨B, _, hBG, _, hfl, _⟩, _⟩ := id R
  obtain ⟨g₅, _, F₅, K₅⟩ := kts_ground K F hBG hfl.1 hsm
  refine wpAny_handleBy_cons (codeAny_handlers_test (T _ _ _ _ g₅ e m F₅ (XB.keeps K₅.stays) (topRead_of (TB.keeps K₅.stays)) R.toSN.ty fun h' kp => ?_)) (by intro q; cases q)
  exact k h' (R.keeps kp) (hsm.trans (Heap.UpToSlots.of_keeps kp)) (c.keeps kp)
/-- what stands behind the catch: the exception with its args, its context none -/
def GotC (news : List (Addr × Obj)) (e t : Addr) (cls : Value) (vs : List Value) : Prop :=
  ∃ oe ot ws nt, (e, oe) ∈ news ∧ (t, ot) ∈ news ∧ oe.cls = cls ∧ oe.data = .fields ws ∧ ws[0]? = some (.ref t) ∧ ws[2]? = some .none ∧ ot.cls = .type "tuple" ∧ ot.data = .seq vs.toArray nt
theorem GotC.got {news : List (Addr × Obj)} {e t : Addr} {cls : Value} {vs : List Value} (x : GotC news e t cls vs) : Got news e t cls vs :=
  let ⟨oe, ot, ws, nt, a, b, c, d, f, _, g, h⟩ := x; ⟨oe, ot, ws, nt, a, b, c, d, f, g, h⟩
theorem hitC (R : RaisedS base G (envOf name scope L a cd :: outer) e cls t vs news s'.heap) (c : C2 s'.heap e) (F : Fr g L G m) (K : Below A₀ base outer g) (hsm : G.UpToSlots s'.heap) (XB : KF.In base) (TB : Top p loose mean mg mb base)
    (D : KtsDicts (outer.filterMap (·.frame)) g) (T0 : KtsTurn (outer.filterMap (·.frame)) g₀ g) (T : KtsTest prog w KF p loose mg mb name scope L a cd cls tt true)
    (k : ∀ h' g' news₂ tk, KtsTurn (outer.filterMap (·.frame)) g₀ g' → Fr g' L h' (fun y => if y = n then some (.ref e) else m y) → News g' L h' news₂ → GotC news₂ e t cls vs → News g' L h' news → Below A₀ base outer g' → KF.In g' → Top p loose mean mg mb g' → KtsDicts (outer.filterMap (·.frame)) g' →
      wpAny (model prog w) ((A₀.deeper (envOf name scope L a cd)).mark (some (.ref e))) (execs (b₀ :: suite) (envOf name scope L a cd))
        (fun f s₄ => wpAny (model prog w) (A₀.deeper (envOf name scope L a cd)) (do bindName (envOf name scope L a cd) n .none; unbindBehindTheSuite (envOf name scope L a cd) n pos) (fun _ s₅ => Q f s₅) E s₄)
        (AsSuiteRaised (model prog w) ((A₀.deeper (envOf name scope L a cd)).mark (some (.ref e))) (envOf name scope L a cd) n pos (notedBy (model prog w) ((A₀.deeper (envOf name scope L a cd)).mark (some (.ref e))) (envOf name scope L a cd) (cameBackBy (model prog w) (A₀.deeper (envOf name scope L a cd)) (envOf name scope L a cd) E)))
        { s' with heap := h', toks := tk })
    (hk : scope.kind = .function := by rfl) (hlo : (envOf name scope L a cd).kindOf n = some .local := by rfl) :
    wpAny (model prog w) (A₀.deeper (envOf name scope L a cd)) (handleBy (.ref e) (envOf name scope L a cd) (.ExceptHandler (some tt) (some n) (b₀ :: suite) pos :: rest)) Q E s' := by
  obtain ⟨⟨B₁, _, hBG₁, _, hfl₁, _⟩, _⟩ := id R
  obtain ⟨g₅, T₅, F₅, K₅⟩ := kts_ground K F hBG₁ hfl₁.1 hsm
  refine wpAny_handleBy_cons (codeAny_handlers_test (T _ _ _ _ g₅ e m F₅ (XB.keeps K₅.stays) (topRead_of (TB.keeps K₅.stays)) R.toSN.ty fun h₅ kp => ?_)) (by intro q; cases q)
  have hsm₅ : G.UpToSlots h₅ := hsm.trans (Heap.UpToSlots.of_keeps kp)
  have c₅ : C2 h₅ e := c.keeps kp
  obtain ⟨⟨B, hB, hBG, hl, hheld, hnew⟩, htup⟩ := R.keeps kp
  have hL : B.get? L = none := by
    obtain ⟨_, ⟨L', _, hf, hn', _⟩, _⟩ := hheld.2.2.1
    obtain rfl : L = L' := Option.some.inj hf
    exact hn'
  refine codeAny_handlers_suite_as ?_
  refine wpAny_mono (wpAny_and (lands_againW (Q := fun _ s₃ => ∃ h', s₃ = { s' with heap := h' } ∧ Heap.FlyingW B (envOf name scope L a cd :: outer) e cls (.ref t) h' ∧ h₅.UpToSlots h') hheld fun h' a b => ⟨h', rfl, a, b⟩)
    (setFlight_C2 (E := fun _ _ => True) hheld.2.2.2.at c₅)) (fun _ s₃ q => ?_) fun _ _ q => q.1
  obtain ⟨⟨h₆, rfl, hfl₆, hsm₆⟩, c₆⟩ := q
  obtain ⟨g₆, T₆, F₆, K₆⟩ := kts_ground K F hBG hfl₆.1 (hsm₅.trans hsm₆)
  obtain ⟨oe, ws, hoe, hoec, hoed, hoe0⟩ := hfl₆.first
  obtain ⟨oe', ws', hoe', hoed', hoe2⟩ := c₆
  rw [hoe] at hoe'
  cases hoe'
  rw [hoed] at hoed'
  cases hoed'
  obtain ⟨ot, nt, hot, hotc, hotd⟩ := htup.of_slots hsm₆
  have up := hsm₅.trans hsm₆
  have ne₆ : g₆.get? e = none := T₆.none_ _ (kts_fresh F hBG hfl₆.2.1 fun o ho m => by
    obtain ⟨_, o', ho', hd⟩ := K.frames.mem m
    cases ho.symm.trans ho'
    obtain ⟨sl, hs⟩ := up _ _ (F.keep _ _ ho) hd
    cases hoe.symm.trans hs
    exact hd _ hoed)
  have nt₆ : g₆.get? t = none := T₆.none_ _ (kts_fresh F hBG hnew fun o ho m => by
    obtain ⟨o', es, n', ho', hd⟩ := D _ m
    cases ho.symm.trans ho'
    obtain ⟨sl, hs⟩ := up _ _ (F.keep _ _ ho) (fun vs q => by rw [hd] at q; cases q)
    cases hot.symm.trans hs
    cases hd.symm.trans hotd)
  have N₆ := News.more F₆ (News.more F₆ News.nil hot (fun es n q => by rw [hotd] at q; cases q) nt₆) hoe (fun es n q => by rw [hoed] at q; cases q) ne₆
  have Nl : News g₆ L h₆ news := fun q hq => ⟨hfl₆.1 _ _ (hl q hq).1, (fun z => by have := (hl q hq).1; rw [z, hL] at this; cases this), T₆.none_ _ (kts_none F.keep (hl q hq).2.1)⟩
  refine stN F₆ (news := _ ++ news) (fun q hq => (List.mem_append.mp hq).elim (N₆ q) (Nl q)) (fun h₇ F₇ N₇ => ?_) hk hlo
  exact k h₇ g₆ _ _ (T0.trans T₆) F₇ (fun q hq => N₇ q (List.mem_append_left _ hq)) ⟨oe, ot, ws, nt, .head _, .tail _ (.head _), hoec, hoed, hoe0, hoe2, hotc, hotd⟩ (fun q hq => N₇ q (List.mem_append_right _ hq)) K₆ (XB.keeps K₆.stays) (TB.keeps K₆.stays) (D.turn T₆)
end
end Mine
end
section
open PySem PySem.W PyProof.Rows PySem.Calls
set_option maxRecDepth 100000
namespace Mine
theorem entry_unchain : entryFor table "proto.unchain" = some Builtin.«proto.unchain» := entryFor_of_fast (by kernel_rfl)
section
variable {prog : Program} {w : World} {A : Around} {E : Value → Shared → Prop} {s : Shared}
theorem raiseNew_in {α : Type} {x e : Addr} {ox : Obj} {vs : Array Value} {Q : α → Shared → Prop} (hh : A.handled = some (.ref e)) (hne : e ≠ x) (c : C2 s.heap e) (hx : s.heap.get? x = some ox) (hd : ox.data = .fields vs) (h2 : 2 < vs.size)
    (k : E (.ref x) { s with heap := s.heap.update x (Obj.mapFields (·.setIfInBounds 2 (.ref e))) }) : wpAny (model prog w) A (raiseNew (.ref x) : Sem α) Q E s := by
  simp only [raiseNew]
  refine wpAny_bind (wpAny_handled ?_)
  rw [hh]
  show wpAny _ _ (if (Value.ref e != Value.ref x) = true then _ else _) _ _ _
  rw [if_pos (by simpa using hne)]
  obtain ⟨oe, ws, he, hdw, h2w⟩ := c
  refine wpAny_bind (wpAny_holding (wpAny_runValue (codeAny_builtin entry_unchain ?_)))
  unfold Builtin.«proto.unchain»
  refine wpAny_bind (wpAny_field he hdw h2w ?_)
  rw [if_pos (by rfl)]
  refine wpAny_pure ?_
  show wpAny _ _ (updateField x 2 (.ref e) >>= _) _ _ _
  refine wpAny_bind (wpAny_setField hx hd h2 ?_)
  exact wpAny_throw k
theorem next_tuple_endH {it t e : Addr} {i : Nat} {items : Array Value} {Q : Option Value → Shared → Prop} (hh : A.handled = some (.ref e)) (c : C2 s.heap e) (hei : e ≠ it)
    (hit : s.heap.IsTupleIter it t i) (ht : s.heap.IsTuple t items) (hx : items[i]? = none)
    (hQ : ∀ h', Heap.ExtBut it s.heap h' → Q none { s with heap := h' }) : wpAny (model prog w) A (pyNext (.ref it)) Q E s := by
  obtain ⟨o, ho, hc, hd⟩ := id hit
  obtain ⟨ol, hol, _, nl, hdl⟩ := ht
  unfold pyNext
  refine wpAny_bind (wpAny_attempt (wpAny_callSpecial?_slot (name := Str.ofString "__next__") hit.typeIs F.slot_tuple_iterator_next
    (wpAny_call_entry F.slot_tuple_iterator_next hit.typeIs F.entry_tuple_iterator_next ?_ (F.args_tuple_iterator_next_1 _))))
  show wpAny _ _ (field (.ref it) 0 >>= _) _ _ s
  refine wpAny_bind (wpAny_field ho hd (x := .ref t) rfl ?_)
  show wpAny _ _ (if (Value.ref t == Value.none) = true then _ else _) _ _ s
  rw [if_neg (show ¬ ((Value.ref t == Value.none) = true) from Bool.false_ne_true)]
  show wpAny _ _ (field (.ref it) 1 >>= _) _ _ s
  refine wpAny_bind (wpAny_field ho hd (x := .int i 0) rfl ?_)
  show wpAny _ _ (seqItems? (.ref t) >>= _) _ _ s
  refine wpAny_bind (wpAny_seqItems hol hdl ?_)
  simp only [Int.toNat_natCast, hx]
  refine wpAny_bind (wpAny_rule (wpAny_bind (wpAny_setField ho hd (by simp) ?_)))
  show wpAny _ _ (newExc (.type "StopIteration") [] >>= _) _ _ _
  refine wpAny_bind ?_
  simp only [newExc, newTuple]
  refine wpAny_bind (wpAny_newObj_type ?_ (by size_fits))
  refine wpAny_bind (m := firstArgMember _ _) (wpAny_of_eq (a := Value.none) (by first | rfl | (simp only [firstArgMember]; rfl)) ?_)
  refine wpAny_newObj_type ?_ (by size_fits)
  have c₁ : C2 (s.heap.update it (Obj.mapFields (·.setIfInBounds 0 Value.none))) e := c.same (Heap.get?_update_other _ _ (Ne.symm hei))
  have hlt : e < (s.heap.update it (Obj.mapFields (·.setIfInBounds 0 Value.none))).objs.size := by
    obtain ⟨oe, _, he, _⟩ := c₁
    exact Heap.lt_size he
  refine raiseNew_in (show A.in1.handled = some (.ref e) from hh) ?_ ((c₁.keeps fun b o q => Heap.get?_push_of_some _ q).keeps fun b o q => Heap.get?_push_of_some _ q) (Heap.get?_push_size _ rfl) rfl (by simp; omega) ?_
  · rw [Heap.size_push]
    exact Nat.ne_of_lt (Nat.lt_succ_of_lt hlt)
  · refine wpAny_bind (wpAny_isInstance (T := "StopIteration") (b := true) ⟨_, Heap.get?_update_self _ (Heap.get?_push_size _ rfl) (Obj.isFreed_of_fields (Obj.data_mapFields rfl _)), Obj.cls_mapFields _ _⟩ isSubtype_stop ?_)
    refine wpAny_pure (hQ _ ?_)
    intro b o hb q
    have hbs := Heap.lt_size q
    have h1 : (s.heap.update it (Obj.mapFields (·.setIfInBounds 0 Value.none))).get? b = some o := (Heap.get?_update_other _ _ (Ne.symm hb)).trans q
    have hlb := Heap.lt_size h1
    rw [Heap.get?_update_other _ _ ?_]
    · exact Heap.get?_push_of_some _ (Heap.get?_push_of_some _ h1)
    · rw [Heap.size_push]
      exact Nat.ne_of_gt (Nat.lt_succ_of_lt hlb)
theorem tupleH (e : Addr) (hh : A.handled = some (.ref e)) (I ax : Addr) (hne : ax ≠ I) (hei : e ≠ I) (items : Array Value) :
    Walks prog w A I [I, ax, e] [I] items.size (fun i v => items[i]? = some v) (fun i h => h.IsTupleIter I ax i ∧ h.IsTuple ax items ∧ C2 h e) where
  sub := fun b hb => by simp at hb; simp [hb]
  frame := fun _ _ _ st hk => ⟨st.1.at fun o e => hk I (by simp) o e, st.2.1.at fun o e => hk ax (by simp) o e, let ⟨oe, ws, a, b, c⟩ := st.2.2; ⟨oe, ws, hk e (by simp) _ a, b, c⟩⟩
  item := fun i s Q E hi st hQ => by
    refine wpAny_pyNext_tuple_item st.1 st.2.1 (x := items[i]) (by simp [hi]) fun h' hit' hs' => ?_
    exact hQ _ h' s.toks (by simp [hi]) ⟨hit', st.2.1.extBut hs'.extBut hne, let ⟨oe, ws, a, b, c⟩ := st.2.2; ⟨oe, ws, hs'.extBut e oe hei a, b, c⟩⟩ fun b o hb e => hs'.extBut b o (fun h => hb (by simp [h])) e
  done := fun s Q E st hQ => next_tuple_endH hh st.2.2 hei st.1 st.2.1 (by simp) fun h' he' => hQ h' s.toks fun b o hb e => he' b o (fun h => hb (by simp [h])) e
  self := fun _ _ _ _ st hQ => wpAny_pyIter_tupleiter st.1 hQ
end
end Mine
end
section
open PySem PySem.W PyProof.Rows PySem.Calls PySem.Spec
set_option maxRecDepth 100000
namespace Mine
open LCg LCt
section
variable {prog : Program} {w : World} {A : Around} {E : Value → Shared → Prop} {s : Shared} {h₀ : Heap} {L : Addr} {m : Str → Option Value} {env : Env}
/-- a test that says no and changes nothing that the ledger speaks of -/
def TestOff (h₀ : Heap) (L : Addr) (m : Str → Option Value) (s : Shared) (led : List (Addr × Obj)) (ok : Bool) (s' : Shared) : Prop :=
  ok = false ∧ ∃ h' tk, s' = { s with heap := h', toks := tk } ∧ Fr h₀ L h' m ∧ News h₀ L h' led
theorem TestOff.intro {led led' : List (Addr × Obj)} {h' : Heap} {tk : Nat} (F : Fr h₀ L h' m) (N : News h₀ L h' led') (hs : ∀ p ∈ led, p ∈ led') : TestOff h₀ L m s led false { s with heap := h', toks := tk } :=
  ⟨rfl, h', tk, rfl, F, fun p hp => N p (hs p hp)⟩

theorem compRestT_none {ct elt : Expr} {x : Str} {scope : Scope} {cl : List (Str × Addr)} {S : List (Addr × Obj) → Prop} {P : Nat → Value → Prop} {Fin : List Value → List (Addr × Obj) → Prop} {news : List (Addr × Obj)}
    (hS : S news) (hfin : Fin [] news)
    (htest : ∀ (i : Nat) (v : Value) (I : Addr) (oI : Obj) (C : Addr) (oC : Obj) (D : Addr) (m₂ : Str → Option Value) (h : Heap) (tk : Nat) (E' : Value → Shared → Prop), P i v → NsObj oC m₂ → m₂ x = some v → Fr h₀ L h m → News h₀ L h ((I, oI) :: (C, oC) :: (D, lst []) :: news) →
      wpAny (model prog w) A (isTrue ct (compEnvC scope cl C env) (eval ct (compEnvC scope cl C env))) (TestOff h₀ L m { s with heap := h, toks := tk } ((I, oI) :: (C, oC) :: (D, lst []) :: news)) E' { s with heap := h, toks := tk }) :
    ∀ k i, CompRestT prog w A h₀ L m env ct elt x scope cl s S P Fin k i [] news
  | 0, _ => hfin
  | k + 1, i => fun v I oI C oC D m₂ h tk E' hP hC hm F N off d => by
    refine wpAny_mono (htest i v I oI C oC D m₂ h tk E' hP hC hm F N) (fun ok s' q => ?_) fun _ _ e => e
    obtain ⟨rfl, h', tk', rfl, F', N'⟩ := q
    simp only [Bool.false_eq_true, if_false]
    exact ⟨h', tk', news, rfl, F', N', off, hS, compRestT_none hS hfin htest k (i + 1)⟩

theorem ListComp_none {ct elt iter : Expr} {x : Str} {px : Pos} {scope : Scope} {cl : List (Str × Addr)} {pos : Pos} {Q : Value → Shared → Prop} {ax : Addr} {items : Array Value} {n : Nat} {news : List (Addr × Obj)}
    (F : Fr h₀ L s.heap m) (N : News h₀ L s.heap news) (hh : A.handled = none)
    (hev : ∀ Q' : Value → Shared → Prop, Q' (.ref ax) s → wpAny (model prog w) A (eval iter env) Q' E s)
    (ht : (ax, ({ cls := .type "tuple", data := .seq items n } : Obj)) ∈ news ∨ (ax, W.listOf items n) ∈ news) (hsz : items.size ≤ sizeLine)
    (hclos : closureFor scope env = pure cl) (hcell : ∀ y ∈ scope.names, y.2 ≠ .cell) (hkind : scope.kind = .function)
    (hnames : ∀ y ∈ scope.names, y.2 = .local → scope.names.lookup y.1 = some .local) (hx : scope.names.lookup x = some .local) (hs : ∀ x, foldedSetIterable iter env x = pure x)
    (htest : ∀ (i : Nat) (v : Value) (I : Addr) (oI : Obj) (C : Addr) (oC : Obj) (D : Addr) (m₂ : Str → Option Value) (h : Heap) (tk : Nat) (E' : Value → Shared → Prop), items[i]? = some v → NsObj oC m₂ → m₂ x = some v → Fr h₀ L h m → News h₀ L h ((I, oI) :: (C, oC) :: (D, lst []) :: news) →
      wpAny (model prog w) A (isTrue ct (compEnvC scope cl C env) (eval ct (compEnvC scope cl C env))) (TestOff h₀ L m { s with heap := h, toks := tk } ((I, oI) :: (C, oC) :: (D, lst []) :: news)) E' { s with heap := h, toks := tk })
    (fin : ∀ D h tk, Fr h₀ L h m → News h₀ L h ((D, lst []) :: news) → Off1 D news → Q (.ref D) { s with heap := h, toks := tk }) :
    wpAny (model prog w) A (eval (.ListComp elt [⟨.Name x px, iter, [ct], 0⟩] scope pos) env) Q E s := by
  rw [eval_ListComp]
  refine wpAny_comprehension_free (use := none) rfl hs hclos hkind hnames (hev _ ?_)
  have rr : ∀ s₂ : Shared, (∃ h, s₂ = { s with heap := h }) → ∀ D C h tk m' ys news', Fr h₀ L h m → News h₀ L h ((D, lst ys) :: news') → Off1 D news' → h.Ns C m' → h₀.get? C = none → h₀.get? D = none → C ≠ L → D ≠ L → C ≠ D → (∀ p ∈ news', p.1 ≠ C) → (fun ys nw => ys = [] ∧ nw = news) ys news' →
      compPost (model prog w) A E none Q (.ref D) C (.ok .next) { s₂ with heap := h, toks := tk } := by
    rintro _ ⟨h1, rfl⟩ D C h tk m' ys news' F' N' o1 hn hC₀ hD₀ hCL hDL hCD offC ⟨rfl, rfl⟩
    refine ⟨m', hn, fun h'' hs'' => fin D h'' tk (F'.change hs'' hCL hC₀) (fun p hp => ?_) o1⟩
    refine ⟨hs''.extBut _ _ ?_ (N' p hp).1, (N' p hp).2⟩
    rcases List.mem_cons.mp hp with rfl | hp
    · exact Ne.symm hCD
    · exact offC p hp
  rcases ht with ht | ht
  · have hl : s.heap.IsTuple ax items := ⟨_, (N _ ht).1, rfl, n, rfl⟩
    have hlt : ax < s.heap.objs.size := Heap.lt_size (N _ ht).1
    refine wpAny_pyIter_tuple hl ?_
    have up : ∀ b o, s.heap.get? b = some o → (s.heap.push { cls := .type "tuple_iterator", data := .fields #[.ref ax, .int 0 0] }).get? b = some o := fun b o e => Heap.get?_push_of_some _ e
    refine block_T (S := fun nw => (ax, ({ cls := .type "tuple", data := .seq items n } : Obj)) ∈ nw) (Fin := fun ys nw => ys = [] ∧ nw = news) (Walks.tuple hh s.heap.objs.size ax (Nat.ne_of_lt hlt) items) hsz (fun i h st => by obtain ⟨o, e, _⟩ := st.1; exact ⟨o, e⟩)
      (fun i h h' o nw st e e' k N S => ⟨by obtain ⟨o', q, r⟩ := st.1; rw [e] at q; cases q; exact ⟨o, e', r⟩, ⟨_, (N _ S).1, rfl, n, rfl⟩⟩) hcell hkind hx ⟨⟨_, Heap.get?_push_size _ rfl, rfl, rfl⟩, hl.at fun o e => up _ o e⟩ (fun b hb => ?_)
      (F.keeps up) (N.grown up) (Nat.ne_of_lt F.ns.lt) (next_is_new F) (fun p hp => Nat.ne_of_lt (Heap.lt_size (N p hp).1)) ht (compRestT_none (s := { s with heap := s.heap.push _ }) (S := fun nw => (ax, ({ cls := .type "tuple", data := .seq items n } : Obj)) ∈ nw) (P := fun i v => items[i]? = some v) (Fin := fun ys nw => ys = [] ∧ nw = news) ht (And.intro rfl rfl) (fun i v I oI C oC D m₂ h tk E' hP hC hm F' N' => htest i v I oI C oC D m₂ h tk E' hP hC hm F' N') _ _) (rr _ ⟨_, rfl⟩)
    show b < (s.heap.push _).objs.size
    rw [Heap.size_push]
    rcases List.mem_cons.mp hb with rfl | hb
    · exact Nat.lt_succ_self _
    · rw [List.mem_singleton.mp hb]; exact Nat.lt_succ_of_lt hlt
  · have hl : s.heap.IsList ax items := ⟨_, (N _ ht).1, rfl, n, rfl⟩
    have hlt : ax < s.heap.objs.size := Heap.lt_size (N _ ht).1
    refine wpAny_pyIter_list hl ?_
    have up : ∀ b o, s.heap.get? b = some o → (s.heap.push { cls := .type "list_iterator", data := .fields #[.ref ax, .int 0 0] }).get? b = some o := fun b o e => Heap.get?_push_of_some _ e
    refine block_T (S := fun nw => (ax, W.listOf items n) ∈ nw) (Fin := fun ys nw => ys = [] ∧ nw = news) (Walks.list hh s.heap.objs.size ax (Nat.ne_of_lt hlt) items) hsz (fun i h st => by obtain ⟨o, e, _⟩ := st.1; exact ⟨o, e⟩)
      (fun i h h' o nw st e e' k N S => ⟨by obtain ⟨o', q, r⟩ := st.1; rw [e] at q; cases q; exact ⟨o, e', r⟩, ⟨_, (N _ S).1, rfl, n, rfl⟩⟩) hcell hkind hx ⟨⟨_, Heap.get?_push_size _ rfl, rfl, rfl⟩, hl.at fun o e => up _ o e⟩ (fun b hb => ?_)
      (F.keeps up) (N.grown up) (Nat.ne_of_lt F.ns.lt) (next_is_new F) (fun p hp => Nat.ne_of_lt (Heap.lt_size (N p hp).1)) ht (compRestT_none (s := { s with heap := s.heap.push _ }) (S := fun nw => (ax, W.listOf items n) ∈ nw) (P := fun i v => items[i]? = some v) (Fin := fun ys nw => ys = [] ∧ nw = news) ht (And.intro rfl rfl) (fun i v I oI C oC D m₂ h tk E' hP hC hm F' N' => htest i v I oI C oC D m₂ h tk E' hP hC hm F' N') _ _) (rr _ ⟨_, rfl⟩)
    show b < (s.heap.push _).objs.size
    rw [Heap.size_push]
    rcases List.mem_cons.mp hb with rfl | hb
    · exact Nat.lt_succ_self _
    · rw [List.mem_singleton.mp hb]; exact Nat.lt_succ_of_lt hlt

/-- a test that answers b and changes nothing that the ledger speaks of -/
def TestIs (h₀ : Heap) (L : Addr) (m : Str → Option Value) (s : Shared) (led : List (Addr × Obj)) (b : Bool) (ok : Bool) (s' : Shared) : Prop :=
  ok = b ∧ ∃ h' tk, s' = { s with heap := h', toks := tk } ∧ Fr h₀ L h' m ∧ News h₀ L h' led
theorem TestIs.intro {led led' : List (Addr × Obj)} {h' : Heap} {tk : Nat} {b ok : Bool} (e : ok = b) (F : Fr h₀ L h' m) (N : News h₀ L h' led') (hs : ∀ p ∈ led, p ∈ led') : TestIs h₀ L m s led b ok { s with heap := h', toks := tk } :=
  ⟨e, h', tk, rfl, F, fun p hp => N p (hs p hp)⟩

theorem compRestT_filt {ct : Expr} {x : Str} {pe : Pos} {scope : Scope} {cl : List (Str × Addr)} {S : List (Addr × Obj) → Prop} {items : Array Value} {Fin : List Value → List (Addr × Obj) → Prop} {news : List (Addr × Obj)} (p : Value → Bool)
    (hS : S news) (hfin : Fin (items.toList.filter p) news) (hkind : scope.kind = .function) (hx : scope.names.lookup x = some .local) (hd : (x == ("__debug__" : Str)) = false)
    (htest : ∀ (i : Nat) (v : Value) (ys : List Value) (I : Addr) (oI : Obj) (C : Addr) (oC : Obj) (D : Addr) (m₂ : Str → Option Value) (h : Heap) (tk : Nat) (E' : Value → Shared → Prop), items[i]? = some v → NsObj oC m₂ → m₂ x = some v → Fr h₀ L h m → News h₀ L h ((I, oI) :: (C, oC) :: (D, lst ys) :: news) →
      wpAny (model prog w) A (isTrue ct (compEnvC scope cl C env) (eval ct (compEnvC scope cl C env))) (TestIs h₀ L m { s with heap := h, toks := tk } ((I, oI) :: (C, oC) :: (D, lst ys) :: news) (p v)) E' { s with heap := h, toks := tk }) :
    ∀ k i, i + k = items.size → CompRestT prog w A h₀ L m env ct (.Name x pe) x scope cl s S (fun i v => items[i]? = some v) Fin k i ((items.toList.take i).filter p) news
  | 0, i, hk => by
    rw [List.take_of_length_le (by simp; omega)]
    exact hfin
  | k + 1, i, hk => fun v I oI C oC D m₂ h tk E' hP hC hm F N off d => by
    have hn := take_succ_filter p items.toList i v (by simpa using hP)
    have rest := compRestT_filt (pe := pe) p hS hfin hkind hx hd htest k (i + 1) (by omega)
    refine wpAny_mono (htest i v _ I oI C oC D m₂ h tk E' hP hC hm F N) (fun ok s' q => ?_) fun _ _ e => e
    obtain ⟨rfl, h', tk', rfl, F', N'⟩ := q
    cases hp : p v with
    | false =>
      simp only [Bool.false_eq_true, if_false]
      rw [hp] at hn
      simp only [Bool.false_eq_true, if_false, List.append_nil] at hn
      exact ⟨h', tk', news, rfl, F', N', off, hS, hn ▸ rest⟩
    | true =>
      simp only [if_true]
      rw [hp] at hn
      simp only [if_true] at hn
      rw [hn] at rest
      refine LCgL.ld_own N' (.tail _ (.head _)) hC hm ?_ (by simp [compEnvC, relabel, hkind]) (lookup_relabel_local hx) hd
      exact ⟨h', tk', news, rfl, F', N', off, hS, rest⟩

theorem ListComp_filt {ct iter : Expr} {x : Str} {px pe : Pos} {scope : Scope} {cl : List (Str × Addr)} {pos : Pos} {Q : Value → Shared → Prop} {ax : Addr} {items : Array Value} {n : Nat} {news : List (Addr × Obj)} (p : Value → Bool)
    (F : Fr h₀ L s.heap m) (N : News h₀ L s.heap news) (hh : A.handled = none)
    (hev : ∀ Q' : Value → Shared → Prop, Q' (.ref ax) s → wpAny (model prog w) A (eval iter env) Q' E s)
    (ht : (ax, W.listOf items n) ∈ news) (hsz : items.size ≤ sizeLine)
    (hclos : closureFor scope env = pure cl) (hcell : ∀ y ∈ scope.names, y.2 ≠ .cell) (hkind : scope.kind = .function)
    (hnames : ∀ y ∈ scope.names, y.2 = .local → scope.names.lookup y.1 = some .local) (hx : scope.names.lookup x = some .local) (hd : (x == ("__debug__" : Str)) = false) (hs : ∀ x, foldedSetIterable iter env x = pure x)
    (htest : ∀ (i : Nat) (v : Value) (ys : List Value) (I : Addr) (oI : Obj) (C : Addr) (oC : Obj) (D : Addr) (m₂ : Str → Option Value) (h : Heap) (tk : Nat) (E' : Value → Shared → Prop), items[i]? = some v → NsObj oC m₂ → m₂ x = some v → Fr h₀ L h m → News h₀ L h ((I, oI) :: (C, oC) :: (D, lst ys) :: news) →
      wpAny (model prog w) A (isTrue ct (compEnvC scope cl C env) (eval ct (compEnvC scope cl C env))) (TestIs h₀ L m { s with heap := h, toks := tk } ((I, oI) :: (C, oC) :: (D, lst ys) :: news) (p v)) E' { s with heap := h, toks := tk })
    (fin : ∀ D h tk, Fr h₀ L h m → News h₀ L h ((D, lst (items.toList.filter p)) :: news) → Off1 D news → Q (.ref D) { s with heap := h, toks := tk }) :
    wpAny (model prog w) A (eval (.ListComp (.Name x pe) [⟨.Name x px, iter, [ct], 0⟩] scope pos) env) Q E s := by
  rw [eval_ListComp]
  refine wpAny_comprehension_free (use := none) rfl hs hclos hkind hnames (hev _ ?_)
  have rr : ∀ s₂ : Shared, (∃ h, s₂ = { s with heap := h }) → ∀ D C h tk m' ys news', Fr h₀ L h m → News h₀ L h ((D, lst ys) :: news') → Off1 D news' → h.Ns C m' → h₀.get? C = none → h₀.get? D = none → C ≠ L → D ≠ L → C ≠ D → (∀ p ∈ news', p.1 ≠ C) → (fun ys nw => ys = items.toList.filter p ∧ nw = news) ys news' →
      compPost (model prog w) A E none Q (.ref D) C (.ok .next) { s₂ with heap := h, toks := tk } := by
    rintro _ ⟨h1, rfl⟩ D C h tk m' ys news' F' N' o1 hn hC₀ hD₀ hCL hDL hCD offC ⟨rfl, rfl⟩
    refine ⟨m', hn, fun h'' hs'' => fin D h'' tk (F'.change hs'' hCL hC₀) (fun p hp => ?_) o1⟩
    refine ⟨hs''.extBut _ _ ?_ (N' p hp).1, (N' p hp).2⟩
    rcases List.mem_cons.mp hp with rfl | hp
    · exact Ne.symm hCD
    · exact offC p hp
  have hl : s.heap.IsList ax items := ⟨_, (N _ ht).1, rfl, n, rfl⟩
  have hlt : ax < s.heap.objs.size := Heap.lt_size (N _ ht).1
  refine wpAny_pyIter_list hl ?_
  have up : ∀ b o, s.heap.get? b = some o → (s.heap.push { cls := .type "list_iterator", data := .fields #[.ref ax, .int 0 0] }).get? b = some o := fun b o e => Heap.get?_push_of_some _ e
  refine block_T (S := fun nw => (ax, W.listOf items n) ∈ nw) (Fin := fun ys nw => ys = items.toList.filter p ∧ nw = news) (Walks.list hh s.heap.objs.size ax (Nat.ne_of_lt hlt) items) hsz (fun i h st => by obtain ⟨o, e, _⟩ := st.1; exact ⟨o, e⟩)
    (fun i h h' o nw st e e' k N S => ⟨by obtain ⟨o', q, r⟩ := st.1; rw [e] at q; cases q; exact ⟨o, e', r⟩, ⟨_, (N _ S).1, rfl, n, rfl⟩⟩) hcell hkind hx ⟨⟨_, Heap.get?_push_size _ rfl, rfl, rfl⟩, hl.at fun o e => up _ o e⟩ (fun b hb => ?_)
    (F.keeps up) (N.grown up) (Nat.ne_of_lt F.ns.lt) (next_is_new F) (fun p hp => Nat.ne_of_lt (Heap.lt_size (N p hp).1)) ht (compRestT_filt (s := { s with heap := s.heap.push _ }) (S := fun nw => (ax, W.listOf items n) ∈ nw) (Fin := fun ys nw => ys = items.toList.filter p ∧ nw = news) p ht (And.intro rfl rfl) hkind hx hd (fun i v ys I oI C oC D m₂ h tk E' hP hC hm F' N' => htest i v ys I oI C oC D m₂ h tk E' hP hC hm F' N') items.size 0 (by omega)) (rr _ ⟨_, rfl⟩)
  show b < (s.heap.push _).objs.size
  rw [Heap.size_push]
  rcases List.mem_cons.mp hb with rfl | hb
  · exact Nat.lt_succ_self _
  · rw [List.mem_singleton.mp hb]; exact Nat.lt_succ_of_lt hlt
end
end Mine
end
section
open PySem PySem.W PyProof.Rows PySem.Calls PySem.Spec
set_option maxRecDepth 100000
namespace Mine
open LCg
section
variable {prog : Program} {w : World} {A : Around} {E : Value → Shared → Prop} {s : Shared} {h₀ : Heap} {L : Addr} {m : Str → Option Value} {env : Env}
theorem compRest_inv {elt : Expr} {x : Str} {scope : Scope} {cl : List (Str × Addr)} {items : Array Value} {keep : List (Addr × Obj)} {Fin : List Value → List (Addr × Obj) → Prop} (J : Nat → List Value → List (Addr × Obj) → Prop)
    (hk : ∀ i ys nw, J i ys nw → ∀ p ∈ keep, p ∈ nw)
    (turn : ∀ i v ys nw I oI C oC D m₂ h tk (E' : Value → Shared → Prop), items[i]? = some v → J i ys nw → NsObj oC m₂ → m₂ x = some v → Fr h₀ L h m → News h₀ L h ((I, oI) :: (C, oC) :: (D, lst ys) :: nw) → Off3 I C D nw → ((@Ne Nat I C) ∧ (@Ne Nat I D) ∧ (@Ne Nat C D)) →
      wpAny (model prog w) A (eval elt (compEnvC scope cl C env)) (CompEnd h₀ L m { s with heap := h, toks := tk } I oI C oC D (lst ys) (fun _ => True) (fun y nw' => J (i + 1) (ys ++ [y]) nw')) E' { s with heap := h, toks := tk })
    (done : ∀ ys nw, J items.size ys nw → Fin ys nw) :
    ∀ k i ys nw, i + k = items.size → J i ys nw → CompRest prog w A h₀ L m env elt x scope cl s (fun nw => ∀ p ∈ keep, p ∈ nw) (fun i v => items[i]? = some v) Fin k i ys nw
  | 0, i, ys, nw, e, hJ => done ys nw (by have : i = items.size := by omega
                                          rw [← this]; exact hJ)
  | k + 1, i, ys, nw, e, hJ => fun v I oI C oC D m₂ h tk E' hP hC hm F N off d => by
    refine wpAny_mono (turn i v ys nw I oI C oC D m₂ h tk E' hP hJ hC hm F N off d) (fun y s' q => ?_) fun _ _ e => e
    obtain ⟨h', tk', nw', rfl, F', N', off', _, r⟩ := q
    exact ⟨h', tk', nw', rfl, F', N', off', hk _ _ _ r, compRest_inv J hk turn done k (i + 1) _ nw' (by omega) r⟩

/-- a list comprehension over a tuple of the ledger, by an invariant; also where an exception is handled -/
theorem ListComp_tupO {elt iter : Expr} {x : Str} {px : Pos} {scope : Scope} {cl : List (Str × Addr)} {pos : Pos} {Q : Value → Shared → Prop} {ax : Addr} (oax : Obj) {items : Array Value} {n : Nat} {news : List (Addr × Obj)} (J : Nat → List Value → List (Addr × Obj) → Prop)
    (F : Fr h₀ L s.heap m) (N : News h₀ L s.heap news) (hj : J 0 [] news)
    (hH : A.handled = none ∨ ∃ e oe ws, A.handled = some (.ref e) ∧ oe.data = .fields ws ∧ ws[2]? = some .none ∧ ∀ i ys nw, J i ys nw → (e, oe) ∈ nw)
    (hoc : oax.cls = .type "tuple") (hod : oax.data = .seq items n) (ht : ∀ i ys nw, J i ys nw → (ax, oax) ∈ nw) (hsz : items.size ≤ sizeLine)
    (hev : ∀ Q' : Value → Shared → Prop, (∀ tk, Q' (.ref ax) { s with toks := tk }) → wpAny (model prog w) A (eval iter env) Q' E s)
    (hclos : closureFor scope env = pure cl) (hcell : ∀ y ∈ scope.names, y.2 ≠ .cell) (hkind : scope.kind = .function)
    (hnames : ∀ y ∈ scope.names, y.2 = .local → scope.names.lookup y.1 = some .local) (hx : scope.names.lookup x = some .local) (hs : ∀ x, foldedSetIterable iter env x = pure x)
    (turn : ∀ i v ys nw I oI C oC D m₂ h tk (E' : Value → Shared → Prop), items[i]? = some v → J i ys nw → NsObj oC m₂ → m₂ x = some v → Fr h₀ L h m → News h₀ L h ((I, oI) :: (C, oC) :: (D, lst ys) :: nw) → Off3 I C D nw → ((@Ne Nat I C) ∧ (@Ne Nat I D) ∧ (@Ne Nat C D)) →
      wpAny (model prog w) A (eval elt (compEnvC scope cl C env)) (CompEnd h₀ L m { s with heap := h, toks := tk } I oI C oC D (lst ys) (fun _ => True) (fun y nw' => J (i + 1) (ys ++ [y]) nw')) E' { s with heap := h, toks := tk })
    (fin : ∀ D h tk ys nw, Fr h₀ L h m → News h₀ L h ((D, lst ys) :: nw) → Off1 D nw → J items.size ys nw → Q (.ref D) { s with heap := h, toks := tk }) :
    wpAny (model prog w) A (eval (.ListComp elt [⟨.Name x px, iter, [], 0⟩] scope pos) env) Q E s := by
  rw [eval_ListComp]
  refine wpAny_comprehension_free (use := none) rfl hs hclos hkind hnames (hev _ fun tk0 => ?_)
  have hm := ht _ _ _ hj
  have hl : s.heap.IsTuple ax items := ⟨_, (N _ hm).1, hoc, n, hod⟩
  have hlt : ax < s.heap.objs.size := Heap.lt_size (N _ hm).1
  refine wpAny_pyIter_tuple hl ?_
  have up : ∀ b o, s.heap.get? b = some o → (s.heap.push { cls := .type "tuple_iterator", data := .fields #[.ref ax, .int 0 0] }).get? b = some o := fun b o e => Heap.get?_push_of_some _ e
  have rr : ∀ D C h tk m' ys news', Fr h₀ L h m → News h₀ L h ((D, lst ys) :: news') → Off1 D news' → h.Ns C m' → h₀.get? C = none → h₀.get? D = none → C ≠ L → D ≠ L → C ≠ D → (∀ p ∈ news', p.1 ≠ C) → J items.size ys news' →
      compPost (model prog w) A E none Q (.ref D) C (.ok .next) { s with heap := h, toks := tk } := by
    intro D C h tk m' ys news' F' N' o1 hn hC₀ hD₀ hCL hDL hCD offC hj'
    refine ⟨m', hn, fun h'' hs'' => fin D h'' tk ys news' (F'.change hs'' hCL hC₀) (fun p hp => ?_) o1 hj'⟩
    refine ⟨hs''.extBut _ _ ?_ (N' p hp).1, (N' p hp).2⟩
    rcases List.mem_cons.mp hp with rfl | hp
    · exact Ne.symm hCD
    · exact offC p hp
  rcases hH with hh | ⟨e, oe, ws, hh, hed, he2, hem⟩
  · refine block_U (S := fun nw => ∀ p ∈ [(ax, oax)], p ∈ nw) (Fin := J items.size) (Walks.tuple hh s.heap.objs.size ax (Nat.ne_of_lt hlt) items) hsz (fun i h st => by obtain ⟨o, e, _⟩ := st.1; exact ⟨o, e⟩)
      (fun i h h' o nw st e e' k N S => ⟨by obtain ⟨o', q, r⟩ := st.1; rw [e] at q; cases q; exact ⟨o, e', r⟩, ⟨_, (N _ (S _ (.head _))).1, hoc, n, hod⟩⟩) hcell hkind hx ⟨⟨_, Heap.get?_push_size _ rfl, rfl, rfl⟩, hl.at fun o e => up _ o e⟩ (fun b hb => ?_)
      (F.keeps up) (N.grown up) (Nat.ne_of_lt F.ns.lt) (next_is_new F) (fun p hp => Nat.ne_of_lt (Heap.lt_size (N p hp).1)) (fun p hp => by rw [List.mem_singleton.mp hp]; exact hm)
      (compRest_inv (s := { s with heap := s.heap.push _, toks := tk0 }) (keep := [(ax, oax)]) J (fun i ys nw q p hp => by rw [List.mem_singleton.mp hp]; exact ht _ _ _ q) (fun i v ys nw I oI C oC D m₂ h tk E' a b c d e f g k => turn i v ys nw I oI C oC D m₂ h tk E' a b c d e f g k) (fun _ _ q => q) items.size 0 [] news (Nat.zero_add _) hj) rr
    show b < (s.heap.push _).objs.size
    rw [Heap.size_push]
    rcases List.mem_cons.mp hb with rfl | hb
    · exact Nat.lt_succ_self _
    · rw [List.mem_singleton.mp hb]; exact Nat.lt_succ_of_lt hlt
  · have hme := hem _ _ _ hj
    have hlte : e < s.heap.objs.size := Heap.lt_size (N _ hme).1
    refine block_U (S := fun nw => ∀ p ∈ [(ax, oax), (e, oe)], p ∈ nw) (Fin := J items.size) (tupleH e hh s.heap.objs.size ax (Nat.ne_of_lt hlt) (Nat.ne_of_lt hlte) items) hsz (fun i h st => by obtain ⟨o, e, _⟩ := st.1; exact ⟨o, e⟩)
      (fun i h h' o nw st e e' k N S => ⟨by obtain ⟨o', q, r⟩ := st.1; rw [e] at q; cases q; exact ⟨o, e', r⟩, ⟨_, (N _ (S _ (.head _))).1, hoc, n, hod⟩, ⟨_, ws, (N _ (S _ (.tail _ (.head _)))).1, hed, he2⟩⟩) hcell hkind hx ⟨⟨_, Heap.get?_push_size _ rfl, rfl, rfl⟩, hl.at fun o e => up _ o e, ⟨_, ws, up _ _ (N _ hme).1, hed, he2⟩⟩ (fun b hb => ?_)
      (F.keeps up) (N.grown up) (Nat.ne_of_lt F.ns.lt) (next_is_new F) (fun p hp => Nat.ne_of_lt (Heap.lt_size (N p hp).1)) (List.forall_mem_cons.mpr ⟨hm, List.forall_mem_cons.mpr ⟨hme, List.forall_mem_nil _⟩⟩)
      (compRest_inv (s := { s with heap := s.heap.push _, toks := tk0 }) (keep := [(ax, oax), (e, oe)]) J (fun i ys nw q => List.forall_mem_cons.mpr ⟨ht _ _ _ q, List.forall_mem_cons.mpr ⟨hem _ _ _ q, List.forall_mem_nil _⟩⟩) (fun i v ys nw I oI C oC D m₂ h tk E' a b c d e f g k => turn i v ys nw I oI C oC D m₂ h tk E' a b c d e f g k) (fun _ _ q => q) items.size 0 [] news (Nat.zero_add _) hj) rr
    show b < (s.heap.push _).objs.size
    rw [Heap.size_push]
    rcases List.mem_cons.mp hb with rfl | hb
    · exact Nat.lt_succ_self _
    · rcases List.mem_cons.mp hb with rfl | hb
      · exact Nat.lt_succ_of_lt hlt
      · rw [List.mem_singleton.mp hb]; exact Nat.lt_succ_of_lt hlte
theorem ListComp_tupJ {elt iter : Expr} {x : Str} {px : Pos} {scope : Scope} {cl : List (Str × Addr)} {pos : Pos} {Q : Value → Shared → Prop} {ax : Addr} {items : Array Value} {n : Nat} {news : List (Addr × Obj)} (J : Nat → List Value → List (Addr × Obj) → Prop)
    (F : Fr h₀ L s.heap m) (N : News h₀ L s.heap news) (hj : J 0 [] news)
    (hH : A.handled = none ∨ ∃ e oe ws, A.handled = some (.ref e) ∧ oe.data = .fields ws ∧ ws[2]? = some .none ∧ ∀ i ys nw, J i ys nw → (e, oe) ∈ nw)
    (ht : ∀ i ys nw, J i ys nw → (ax, ({ cls := .type "tuple", data := .seq items n } : Obj)) ∈ nw) (hsz : items.size ≤ sizeLine)
    (hev : ∀ Q' : Value → Shared → Prop, Q' (.ref ax) s → wpAny (model prog w) A (eval iter env) Q' E s)
    (hclos : closureFor scope env = pure cl) (hcell : ∀ y ∈ scope.names, y.2 ≠ .cell) (hkind : scope.kind = .function)
    (hnames : ∀ y ∈ scope.names, y.2 = .local → scope.names.lookup y.1 = some .local) (hx : scope.names.lookup x = some .local) (hs : ∀ x, foldedSetIterable iter env x = pure x)
    (turn : ∀ i v ys nw I oI C oC D m₂ h tk (E' : Value → Shared → Prop), items[i]? = some v → J i ys nw → NsObj oC m₂ → m₂ x = some v → Fr h₀ L h m → News h₀ L h ((I, oI) :: (C, oC) :: (D, lst ys) :: nw) → Off3 I C D nw → ((@Ne Nat I C) ∧ (@Ne Nat I D) ∧ (@Ne Nat C D)) →
      wpAny (model prog w) A (eval elt (compEnvC scope cl C env)) (CompEnd h₀ L m { s with heap := h, toks := tk } I oI C oC D (lst ys) (fun _ => True) (fun y nw' => J (i + 1) (ys ++ [y]) nw')) E' { s with heap := h, toks := tk })
    (fin : ∀ D h tk ys nw, Fr h₀ L h m → News h₀ L h ((D, lst ys) :: nw) → Off1 D nw → J items.size ys nw → Q (.ref D) { s with heap := h, toks := tk }) :
    wpAny (model prog w) A (eval (.ListComp elt [⟨.Name x px, iter, [], 0⟩] scope pos) env) Q E s :=
  ListComp_tupO _ J F N hj hH rfl rfl ht hsz (fun Q' q => hev Q' (q s.toks)) hclos hcell hkind hnames hx hs turn fin
end
end Mine
end
section
open PySem PySem.W PyProof.Rows PySem.Calls
set_option maxRecDepth 100000
set_option maxHeartbeats 8000000
set_option rowWalk.seconds 0
namespace Mine
local macro_rules | `(tactic| k_room) => `(tactic| ((try simp only [depth_under_make, depth_under_kw, depth_in1, depth_deeper, depth_caller]); first | decide | omega | (simp only [recursionLimit] at *; omega)))
local macro_rules | `(tactic| walk_at "my stop") => `(tactic| ((fail_if_success (with_reducible show wpAny _ _ (pyIter _) (fun it s₂ => LoopAtV _ _ _ _ _ _ _ _ _ it s₂) _ _)); (fail_if_success (with_reducible show wpAny _ _ (exec (Stmt.While _ _ _ _) _) _ _ _)); skip))
local macro_rules | `(tactic| k_steps) => `(tactic| repeat' (first | (k_unfold; (try dsimp only)) | (k_end; wrow_close) | (walk_at "my stop"; walk1) | (walk_at "my stop"; dsimp only; walk1) | (leave1; walk_say "STEP leave1"; try dsimp only) | fail "no step"))
local macro_rules | `(tactic| walk_at "mem tail") => `(tactic| (intro p hp; repeat (first | exact hp | refine List.Mem.tail _ ?_)))
local macro_rules | `(tactic| walk_at "mem all") => `(tactic| repeat' (first | exact List.forall_mem_nil _ | (refine List.forall_mem_cons.mpr ⟨?_, ?_⟩) | k_mem | walk_at "mem tail"))
local macro_rules | `(tactic| walk_at "off all") => `(tactic| repeat' (first | exact List.forall_mem_nil _ | (refine List.forall_mem_cons.mpr ⟨?_, ?_⟩) | k_ne))
local macro_rules | `(tactic| k_all) => `(tactic| assumption)
local macro_rules | `(tactic| walk_at "binaryOp Mult int int") => `(tactic| ((with_reducible refine mul_int ?_ (by first | exact PySem.IntMulOk.of_right (PySem.intBits_le_64 (by omega) (by omega)) | exact PySem.IntMulOk.of_left (PySem.intBits_le_64 (by omega) (by omega)))); (try dsimp only)))
/-- a whole number or a truth, and its weight -/
inductive IB : Value → Int → Prop
  | int (n : Int) (t : Tok) : IB (.int n t) n
  | bool (b : Bool) : IB (.bool b) (if b then 1 else 0)
/-- what stands in the fold's place: its kind's word, and whether it is nought or one -/
inductive Fold (nw : List (Addr × Obj)) : Value → Str → Bool → Prop
  | int (n : Int) (t : Tok) : Fold nw (.int n t) "whole" (n == 0 || n == 1)
  | bool (b : Bool) : Fold nw (.bool b) "truth" true
  | none : Fold nw .none "else" false
  | str (x : Str) (t : Tok) : Fold nw (.str x t) "else" false
  | bytes (x : Array UInt8) (t : Tok) : Fold nw (.bytes x t) "else" false
  | list {a : Addr} {its : Array Value} {c : Nat} (hm : (a, W.listOf its c) ∈ nw) : Fold nw (.ref a) "else" false
  | tuple {a : Addr} {its : Array Value} {c : Nat} (hm : (a, ({ cls := .type "tuple", data := .seq its c } : Obj)) ∈ nw) : Fold nw (.ref a) "else" false
  | dict {a : Addr} {es : Array DictEntry} {c : Nat} (hm : (a, ({ cls := .type "dict", data := .dict es c } : Obj)) ∈ nw) : Fold nw (.ref a) "else" false
  | float (x : UInt64) (t : Tok) : Fold nw (.float x t) "float" (Float64.cmpInt x 0 == some Ordering.eq || Float64.cmpInt x 1 == some Ordering.eq)
theorem Fold.mono {nw nw' : List (Addr × Obj)} {v : Value} {k : Str} {b : Bool} (hs : ∀ p ∈ nw, p ∈ nw') (x : Fold nw v k b) : Fold nw' v k b := by
  cases x with
  | int n t => exact .int n t
  | bool b => exact .bool b
  | none => exact .none
  | str x t => exact .str x t
  | bytes x t => exact .bytes x t
  | list hm => exact .list (hs _ hm)
  | tuple hm => exact .tuple (hs _ hm)
  | dict hm => exact .dict (hs _ hm)
  | float x t => exact .float x t
section
variable {w : World} {A A₀ : Around} {E : Value → Shared → Prop} {s : Shared} {L : Addr} {h₀ base : Heap} {m mg mb : Str → Option Value} {news : List (Addr × Obj)} {p : Program} {loose : List Str} {mean : ExcName → Option Value} {Q : Value → Shared → Prop} {env : Env} {outer : List Env}
theorem kind_call (B : Below A₀ base outer h₀) (F : Fr h₀ L s.heap m) (X : (hd.heap_39 w.params).In h₀) (N : News h₀ L s.heap news) (T : Top p loose mean mg mb h₀) (hA : A.frames = some (env :: outer)) (hf : env.frame = some L) (hke : env.scope.kind = .function)
  (hroom : A.depth + 10 < recursionLimit) {v : Value} {kd : Str} {b : Bool} (K : Fold news v kd b)
  (hok : ∀ h' tk t, Fr h₀ L h' m → News h₀ L h' news → Q (.str kd t) { s with heap := h', toks := tk }) :
  wpAny (model PySem.Challenge.rw_km0086_03.row.prog w) A (call (.ref 46) [v]) Q E s := by
  w_top off
  refine wpAny_call ?_
  refine' code_def B F X N T hA hf hke ?k6 ?k7 ?k8 ?k9 ?kB ?_ ?c2 ?c3 ?c4 ?c5
  case k6 => k_is
  case k7 => k_is
  case k8 => k_room
  case k9 => exact BindsTo.of_eq rfl
  case kB => exact locs rfl
  case c2 => exact rfl
  case c3 => exact rfl
  case c4 => exact rfl
  case c5 => decide
  intro g' L' h' FG' F' N' B' X' T'
  cases K with
  | int n t =>
    (try dsimp only)
    k_steps
    (with_reducible rename Fr h₀ L _ m => FE)
    (with_reducible rename News h₀ L _ _ => NE)
    exact hok _ _ _ FE NE
  | bool b =>
    (try dsimp only)
    k_steps
    (with_reducible rename Fr h₀ L _ m => FE)
    (with_reducible rename News h₀ L _ _ => NE)
    exact hok _ _ _ FE NE
  | none =>
    (try dsimp only)
    k_steps
    (with_reducible rename Fr h₀ L _ m => FE)
    (with_reducible rename News h₀ L _ _ => NE)
    exact hok _ _ _ FE NE
  | str x t =>
    (try dsimp only)
    k_steps
    (with_reducible rename Fr h₀ L _ m => FE)
    (with_reducible rename News h₀ L _ _ => NE)
    exact hok _ _ _ FE NE
  | bytes x t =>
    (try dsimp only)
    k_steps
    (with_reducible rename Fr h₀ L _ m => FE)
    (with_reducible rename News h₀ L _ _ => NE)
    exact hok _ _ _ FE NE
  | list hm =>
    have N1 := news_cons N' hm
    (try dsimp only)
    k_steps
    (with_reducible rename Fr h₀ L _ m => FE)
    (with_reducible rename News h₀ L _ _ => NE)
    exact hok _ _ _ FE (news_sub NE fun p hp => .tail _ hp)
  | tuple hm =>
    have N1 := news_cons N' hm
    (try dsimp only)
    k_steps
    (with_reducible rename Fr h₀ L _ m => FE)
    (with_reducible rename News h₀ L _ _ => NE)
    exact hok _ _ _ FE (news_sub NE fun p hp => .tail _ hp)
  | dict hm =>
    have N1 := news_cons N' hm
    (try dsimp only)
    k_steps
    (with_reducible rename Fr h₀ L _ m => FE)
    (with_reducible rename News h₀ L _ _ => NE)
    exact hok _ _ _ FE (news_sub NE fun p hp => .tail _ hp)
  | float x t =>
    (try dsimp only)
    k_steps
    (with_reducible rename Fr h₀ L _ m => FE)
    (with_reducible rename News h₀ L _ _ => NE)
    exact hok _ _ _ FE NE
end
end Mine
end
section
open PySem PySem.W PyProof.Rows PySem.Calls PySem.SeqAt
set_option maxRecDepth 100000
set_option maxHeartbeats 8000000
set_option rowWalk.seconds 0
namespace Mine
section
variable {prog : Program} {w : World} {A : Around} {E : Value → Shared → Prop} {s : Shared} {h₀ : Heap} {L : Addr}
theorem call_index_IB {v : Value} {n : Int} (x : IB v n) {Q : Value → Shared → Prop} (h : ∀ t tk, Q (.int n t) { s with toks := tk }) :
    wpAny (model prog w) A (call (.builtin "_operator.index") [v]) Q E s := by
  cases x with
  | int n t => exact call_index_int (h t s.toks)
  | bool b => exact call_index_bool (h _ _)
/-- whether the fold's place is one of (0, 1) -/
theorem notIn01 {news : List (Addr × Obj)} {v : Value} {k : Str} {b : Bool} {a : Addr} {t0 t1 : Tok} {c : Nat} {Q : Value → Shared → Prop} (N : News h₀ L s.heap news) (K : Fold news v k b) (hm : (a, ({ cls := .type "tuple", data := .seq #[.int 0 t0, .int 1 t1] c } : Obj)) ∈ news)
    (hu : A.in1.units < cLine) (h : Q (.bool (!b)) s) : wpAny (model prog w) A (compareOp .NotIn v (.ref a)) Q E s := by
  have ht : s.heap.IsTuple a #[.int 0 t0, .int 1 t1] := ⟨_, (N _ hm).1, rfl, c, rfl⟩
  have two : ∀ (b0 b1 : Bool), (b0 || b1) = b → EqAt A.in1 s (.int 0 t0) v b0 → EqAt A.in1 s (.int 1 t1) v b1 → wpAny (model prog w) A (compareOp .NotIn v (.ref a)) Q E s := by
    intro b0 b1 hb e0 e1
    refine notIn_tupleAt (fun y => match y with | .int 0 _ => b0 | _ => b1) ht ?_ ?_
    · intro y hy
      have hy' : y = .int 0 t0 ∨ y = .int 1 t1 := by simpa using hy
      rcases hy' with rfl | rfl
      · exact e0
      · exact e1
    · simpa [hb] using h
  cases K with
  | int n t => exact two _ _ (by rw [BEq.comm (a := (0 : Int)), BEq.comm (a := (1 : Int))]) (EqAt.int_int 0 t0 n t) (EqAt.int_int 1 t1 n t)
  | bool x => exact two _ _ (by cases x <;> rfl) (EqAt.int_bool 0 t0 x) (EqAt.int_bool 1 t1 x)
  | none => exact two _ _ rfl (EqAt.int_none 0 t0) (EqAt.int_none 1 t1)
  | str x t => exact two _ _ rfl (EqAt.int_str 0 t0 x t) (EqAt.int_str 1 t1 x t)
  | bytes x t => exact two _ _ rfl (eqAt_int_bytes 0 t0 x t) (eqAt_int_bytes 1 t1 x t)
  | list hm' => exact two _ _ rfl (EqAt.int_list 0 t0 ⟨_, (N _ hm').1, rfl, _, rfl⟩ hu) (EqAt.int_list 1 t1 ⟨_, (N _ hm').1, rfl, _, rfl⟩ hu)
  | tuple hm' => exact two _ _ rfl (EqAt.int_tuple 0 t0 ⟨_, (N _ hm').1, rfl, _, rfl⟩ hu) (EqAt.int_tuple 1 t1 ⟨_, (N _ hm').1, rfl, _, rfl⟩ hu)
  | dict hm' => exact two _ _ rfl (eqAt_int_dict 0 t0 (N _ hm').1 rfl rfl hu) (eqAt_int_dict 1 t1 (N _ hm').1 rfl rfl hu)
  | float x t => exact two _ _ rfl (eqAt_int_float 0 t0 x t) (eqAt_int_float 1 t1 x t)
end
/-- a thing that is no whole number and no truth -/
def Strange (nw : List (Addr × Obj)) (v : Value) : Prop := (∃ k b, Fold nw v k b) ∧ (∀ n t, v ≠ .int n t) ∧ ∀ b, v ≠ .bool b
section
variable {prog : Program} {w : World} {A : Around} {E : Value → Shared → Prop} {s : Shared} {h₀ : Heap} {L : Addr}
theorem call_index_strange {news : List (Addr × Obj)} {v : Value} {Q : Value → Shared → Prop} (N : News h₀ L s.heap news) (x : Strange news v) (hh : A.handled = none) (h : ∀ h' tk e, Heap.NewExc s.heap h' e "TypeError" → E (.ref e) { s with heap := h', toks := tk }) :
    wpAny (model prog w) A (call (.builtin "_operator.index") [v]) Q E s := by
  obtain ⟨⟨k, b, K⟩, h1, h2⟩ := x
  cases K with
  | int n t => exact absurd rfl (h1 n t)
  | bool b => exact absurd rfl (h2 b)
  | none => exact index_none hh h
  | str x t => exact index_str hh h
  | bytes x t => exact index_bytes hh h
  | list hm => exact index_list (N _ hm).1 rfl rfl hh h
  | tuple hm => exact index_tuple (N _ hm).1 rfl rfl hh h
  | dict hm => exact index_dict (N _ hm).1 rfl rfl hh h
  | float x t => exact index_float hh h
end
local macro_rules | `(tactic| k_room) => `(tactic| ((try simp only [depth_under_make, depth_under_kw, depth_in1, depth_deeper, depth_caller]); first | decide | omega | (simp only [recursionLimit] at *; omega)))
local macro_rules | `(tactic| walk_at "call builtin:_operator.index") => `(tactic| first | refine call_index_int ?_ | (refine call_index_IB (by assumption) ?_; intro tX tkX) | (refine call_index_strange (by assumption) (by assumption) (by first | rfl | assumption) ?_; intro hX tkX eX neX))
local macro_rules | `(tactic| walk_at "exec Raise some none") => `(tactic| (k_here; (with_reducible show wpAny _ _ (exec (Stmt.Raise (some (Expr.Call (Expr.Name ("ValueError" : Str) _) (_ :: _) [] _)) none _) _) _ _ _); (with_reducible rename Fr _ _ _ _ => kF); k_dflt (refine' Raise_madeB PySem.F.excCall_ValueError PySem.F.excRaise_ValueError ?hh ?_; (case hh => first | rfl | assumption); (refine' name_B kF ?k1 ?k2 ?k3 ?k4 ?k5 ?_; (case k1 => k_asm); (case k2 => k_asm); (case k3 => k_is); (case k4 => boot_by_name); (case k5 => decide); k_whole; refine ⟨rfl, ?_⟩))))
local macro_rules | `(tactic| walk_at "mem tail") => `(tactic| (intro p hp; repeat (first | exact hp | refine List.Mem.tail _ ?_)))

local macro_rules | `(tactic| walk_at "leaving ref") => `(tactic| (k_here; (refine' leave_raiseC ?k1 ?k0 ?k2 ?k3 ?_; (case k0 => first | assumption | exact Heap.MadeExc.of (by assumption)); (case k2 => assumption); (case k1 => assumption); (case k3 => k_asm); k_whole; intro h' t' S' U' C'; (try dsimp only at S' U' ⊢))))
local macro_rules | `(tactic| walk_at "units") => `(tactic| ((try simp only [units_deeper, units_in1, units_caller, cLine_is]); first | decide | (simp only [cLine_is] at *; omega)))
local macro_rules | `(tactic| walk_at "compareOp NotIn") => `(tactic| (k_here; refine notIn01 (by assumption) (Fold.mono (fun p hp => ?k1) (by assumption)) (by k_mem) ?k2 ?_; (case k1 => first | exact hp | exact .tail _ hp | exact .tail _ (.tail _ hp)); (case k2 => walk_at "units")))
def w5 : List Str := ["hour must be in 0..23", "minute must be in 0..59", "second must be in 0..59", "microsecond must be in 0..999999", "fold must be either 0 or 1"]
/-- the place at which four numbers are refused; 4: none -/
def bad4 (a b c d : Int) : Nat := if ¬ (0 ≤ a ∧ a ≤ 23) then 0 else if ¬ (0 ≤ b ∧ b ≤ 59) then 1 else if ¬ (0 ≤ c ∧ c ≤ 59) then 2 else if ¬ (0 ≤ d ∧ d ≤ 999999) then 3 else 4
theorem raisedS_sub {base G h : Heap} {l : List Env} {e t : Addr} {cls : Value} {vs : List Value} {nw nw' : List (Addr × Obj)} (R : RaisedS base G l e cls t vs nw h) (hs : ∀ p ∈ nw', p ∈ nw) : RaisedS base G l e cls t vs nw' h :=
  ⟨let ⟨B, a, b, c, d⟩ := R.1; ⟨B, a, b, fun q hq => c q (hs q hq), d⟩, R.2⟩
section
variable {w : World} {A A₀ : Around} {E : Value → Shared → Prop} {s : Shared} {L : Addr} {h₀ base : Heap} {m mg mb : Str → Option Value} {news : List (Addr × Obj)} {p : Program} {loose : List Str} {mean : ExcName → Option Value} {Q : Value → Shared → Prop} {env : Env} {outer : List Env}
theorem ctf (B : Below A₀ base outer h₀) (F : Fr h₀ L s.heap m) (X : (hd.heap_39 w.params).In h₀) (N : News h₀ L s.heap news) (T : Top p loose mean mg mb h₀) (hA : A.frames = some (env :: outer)) (hf : env.frame = some L) (hke : env.scope.kind = .function)
  (hkd : KtsDicts (outer.filterMap (·.frame)) h₀) (hroom : A.depth + 10 < recursionLimit) (hh : A.handled = none) (hu : A.units + 10 < cLine) {v1 v2 v3 v4 v5 : Value} {a b c d : Int} {kd : Str} {b5 : Bool}
  (i1 : IB v1 a) (i2 : IB v2 b) (i3 : IB v3 c) (i4 : IB v4 d) (K : Fold news v5 kd b5)
  (hok : ∀ h' D tk t1 t2 t3 t4, bad4 a b c d = 4 → b5 = true → Fr h₀ L h' m → News h₀ L h' ((D, { cls := .type "tuple", data := .seq #[.int a t1, .int b t2, .int c t3, .int d t4, v5] }) :: news) → AllLt D news → Q (.ref D) { s with heap := h', toks := tk })
  (hbad : ∀ k x g h' e' t tk tk' tx, bad4 a b c d = k → k < 4 → [a, b, c, d][k]? = some x → Fr h₀ L g m → RaisedS base g (env :: outer) e' (.type "ValueError") t [.str (w5.getD k "") tk', .int x tx] news h' → g.UpToSlots h' → C2 h' e' → E (.ref e') { s with heap := h', toks := tk })
  (hfold : ∀ g h' e' t tk tk', bad4 a b c d = 4 → b5 = false → Fr h₀ L g m → RaisedS base g (env :: outer) e' (.type "ValueError") t [.str "fold must be either 0 or 1" tk', v5] news h' → g.UpToSlots h' → C2 h' e' → E (.ref e') { s with heap := h', toks := tk }) :
  wpAny (model PySem.Challenge.rw_km0086_03.row.prog w) A (call (.ref 39) [v1, v2, v3, v4, v5]) Q E s := by
  w_top off
  refine wpAny_call ?_
  refine' code_def B F X N T hA hf hke ?k6 ?k7 ?k8 ?k9 ?kB ?_ ?c2 ?c3 ?c4 ?c5
  case k6 => k_is
  case k7 => k_is
  case k8 => k_room
  case k9 => exact BindsTo.of_eq rfl
  case kB => exact locs rfl
  case c2 => exact rfl
  case c3 => exact rfl
  case c4 => exact rfl
  case c5 => decide
  intro g' L' h' FG' F' N' B' X' T'
  have hlt := fun p hp => Heap.lt_size (N' p hp).1
  (try dsimp only)
  k_steps
  · (with_reducible rename Fr h₀ L _ m => F3)
    (with_reducible rename News h₀ L _ _ => N3)
    refine hok _ _ _ _ _ _ _ ?_ (by assumption) F3 (news_sub N3 (by exact List.forall_mem_cons.mpr ⟨.head _, fun p hp => .tail _ (.tail _ hp)⟩)) (by first | assumption | exact And.right (by assumption))
    · unfold bad4
      repeat' split
      all_goals omega
  · (with_reducible rename RaisedS _ _ _ _ _ _ _ _ _ => R3)
    (with_reducible rename Heap.UpToSlots _ _ => U3)
    (with_reducible rename C2 _ _ => C3)
    refine hfold _ _ _ _ _ _ ?_ (by assumption) FG' (raisedS_sub R3 ?_) U3 C3
    · unfold bad4
      repeat' split
      all_goals omega
    · walk_at "mem tail"
  all_goals
    (with_reducible rename RaisedS _ _ _ _ _ _ _ _ _ => R3)
    (with_reducible rename Heap.UpToSlots _ _ => U3)
    (with_reducible rename C2 _ _ => C3)
  · refine hbad 3 d _ _ _ _ _ _ _ ?_ (by decide) rfl FG' R3 U3 C3
    unfold bad4
    repeat' split
    all_goals omega
  · refine hbad 3 d _ _ _ _ _ _ _ ?_ (by decide) rfl FG' R3 U3 C3
    unfold bad4
    repeat' split
    all_goals omega
  · refine hbad 2 c _ _ _ _ _ _ _ ?_ (by decide) rfl FG' R3 U3 C3
    unfold bad4
    repeat' split
    all_goals omega
  · refine hbad 2 c _ _ _ _ _ _ _ ?_ (by decide) rfl FG' R3 U3 C3
    unfold bad4
    repeat' split
    all_goals omega
  · refine hbad 1 b _ _ _ _ _ _ _ ?_ (by decide) rfl FG' R3 U3 C3
    unfold bad4
    repeat' split
    all_goals omega
  · refine hbad 1 b _ _ _ _ _ _ _ ?_ (by decide) rfl FG' R3 U3 C3
    unfold bad4
    repeat' split
    all_goals omega
  · refine hbad 0 a _ _ _ _ _ _ _ ?_ (by decide) rfl FG' R3 U3 C3
    unfold bad4
    repeat' split
    all_goals omega
  · refine hbad 0 a _ _ _ _ _ _ _ ?_ (by decide) rfl FG' R3 U3 C3
    unfold bad4
    repeat' split
    all_goals omega
end
end Mine
end
section
open PySem PySem.W PyProof.Rows PySem.Calls PySem.SeqAt
set_option maxRecDepth 100000
set_option maxHeartbeats 8000000
set_option rowWalk.seconds 0
namespace Mine
local macro_rules | `(tactic| k_room) => `(tactic| ((try simp only [depth_under_make, depth_under_kw, depth_in1, depth_deeper, depth_caller]); first | decide | omega | (simp only [recursionLimit] at *; omega)))
local macro_rules | `(tactic| walk_at "call builtin:_operator.index") => `(tactic| first | refine call_index_int ?_ | (refine call_index_IB (by assumption) ?_; intro tX tkX) | (refine call_index_strange (by assumption) (by assumption) (by first | rfl | assumption) ?_; intro hX tkX eX neX))
local macro_rules | `(tactic| walk_at "exec Raise some none") => `(tactic| (k_here; (with_reducible show wpAny _ _ (exec (Stmt.Raise (some (Expr.Call (Expr.Name ("ValueError" : Str) _) (_ :: _) [] _)) none _) _) _ _ _); (with_reducible rename Fr _ _ _ _ => kF); k_dflt (refine' Raise_madeB PySem.F.excCall_ValueError PySem.F.excRaise_ValueError ?hh ?_; (case hh => first | rfl | assumption); (refine' name_B kF ?k1 ?k2 ?k3 ?k4 ?k5 ?_; (case k1 => k_asm); (case k2 => k_asm); (case k3 => k_is); (case k4 => boot_by_name); (case k5 => decide); k_whole; refine ⟨rfl, ?_⟩))))
local macro_rules | `(tactic| walk_at "mem tail") => `(tactic| (intro p hp; repeat (first | exact hp | refine List.Mem.tail _ ?_)))

local macro_rules | `(tactic| walk_at "leaving ref") => `(tactic| (k_here; (refine' leave_raiseC ?k1 ?k0 ?k2 ?k3 ?_; (case k0 => first | assumption | exact Heap.MadeExc.of (by assumption)); (case k2 => assumption); (case k1 => assumption); (case k3 => k_asm); k_whole; intro h' t' S' U' C'; (try dsimp only at S' U' ⊢))))
local macro_rules | `(tactic| walk_at "units") => `(tactic| ((try simp only [units_deeper, units_in1, units_caller, cLine_is]); first | decide | (simp only [cLine_is] at *; omega)))
local macro_rules | `(tactic| walk_at "compareOp NotIn") => `(tactic| (k_here; refine notIn01 (by assumption) (Fold.mono (fun p hp => ?k1) (by assumption)) (by k_mem) ?k2 ?_; (case k1 => first | exact hp | exact .tail _ hp | exact .tail _ (.tail _ hp)); (case k2 => walk_at "units")))
section
variable {w : World} {A A₀ : Around} {E : Value → Shared → Prop} {s : Shared} {L : Addr} {h₀ base : Heap} {m mg mb : Str → Option Value} {news : List (Addr × Obj)} {p : Program} {loose : List Str} {mean : ExcName → Option Value} {Q : Value → Shared → Prop} {env : Env} {outer : List Env}
theorem cty (B : Below A₀ base outer h₀) (F : Fr h₀ L s.heap m) (X : (hd.heap_39 w.params).In h₀) (N : News h₀ L s.heap news) (T : Top p loose mean mg mb h₀) (hA : A.frames = some (env :: outer)) (hf : env.frame = some L) (hke : env.scope.kind = .function)
  (hkd : KtsDicts (outer.filterMap (·.frame)) h₀) (hroom : A.depth + 10 < recursionLimit) (hh : A.handled = none) {v1 v2 v3 v4 v5 : Value}
  (H : Strange news v1 ∨ (∃ n, IB v1 n) ∧ (Strange news v2 ∨ (∃ n, IB v2 n) ∧ (Strange news v3 ∨ (∃ n, IB v3 n) ∧ Strange news v4)))
  (hbad : ∀ g h' e' tk, Fr h₀ L g m → RaisedSN base g (env :: outer) e' (.type "TypeError") news h' → g.UpToSlots h' → E (.ref e') { s with heap := h', toks := tk }) :
  wpAny (model PySem.Challenge.rw_km0086_03.row.prog w) A (call (.ref 39) [v1, v2, v3, v4, v5]) Q E s := by
  w_top off
  refine wpAny_call ?_
  refine' code_def B F X N T hA hf hke ?k6 ?k7 ?k8 ?k9 ?kB ?_ ?c2 ?c3 ?c4 ?c5
  case k6 => k_is
  case k7 => k_is
  case k8 => k_room
  case k9 => exact BindsTo.of_eq rfl
  case kB => exact locs rfl
  case c2 => exact rfl
  case c3 => exact rfl
  case c4 => exact rfl
  case c5 => decide
  intro g' L' h' FG' F' N' B' X' T'
  (try dsimp only)
  rcases H with x1 | ⟨⟨n1, i1⟩, x2 | ⟨⟨n2, i2⟩, x3 | ⟨⟨n3, i3⟩, x4⟩⟩⟩
  all_goals
    k_steps
    (with_reducible rename RaisedSN _ _ _ _ _ _ _ => R3)
    (with_reducible rename Heap.UpToSlots _ _ => U3)
    exact hbad _ _ _ _ FG' R3 U3
end
end Mine
end
section
open PySem PySem.W PyProof.Rows PySem.Calls LCg
set_option maxRecDepth 100000
set_option maxHeartbeats 8000000
set_option rowWalk.seconds 0
namespace Mine
local macro_rules | `(tactic| k_room) => `(tactic| ((try simp only [depth_under_make, depth_under_kw, depth_in1, depth_deeper, depth_caller]); first | decide | omega | (simp only [recursionLimit] at *; omega)))
local macro_rules | `(tactic| walk_at "my stop") => `(tactic| ((fail_if_success (with_reducible show wpAny _ _ (pyIter _) (fun it s₂ => LoopAtV _ _ _ _ _ _ _ _ _ it s₂) _ _)); (fail_if_success (with_reducible show wpAny _ _ (call (Value.ref _) _ _) _ _ _)); (fail_if_success (with_reducible show wpAny _ _ (eval (Expr.ListComp _ _ _ _) _) _ _ _)); (fail_if_success (with_reducible show wpAny _ _ (noteFrame _ _) _ _ _)); skip))
local macro_rules | `(tactic| k_steps) => `(tactic| repeat' (first | (k_unfold; (try dsimp only)) | (k_end; wrow_close) | (walk_at "my stop"; walk1) | (walk_at "my stop"; dsimp only; walk1) | (leave1; walk_say "STEP leave1"; try dsimp only) | fail "no step"))
local macro_rules | `(tactic| walk_at "mem tail") => `(tactic| (intro p hp; repeat (first | exact hp | refine List.Mem.tail _ ?_)))
local macro_rules | `(tactic| walk_at "mem all") => `(tactic| repeat' (first | exact List.forall_mem_nil _ | (refine List.forall_mem_cons.mpr ⟨?_, ?_⟩) | k_mem | walk_at "mem tail"))
local macro_rules | `(tactic| walk_at "off all") => `(tactic| repeat' (first | exact List.forall_mem_nil _ | (refine List.forall_mem_cons.mpr ⟨?_, ?_⟩) | k_ne))
local macro_rules | `(tactic| k_all) => `(tactic| assumption)
local macro_rules | `(tactic| walk_at "binaryOp Mult int int") => `(tactic| ((with_reducible refine mul_int ?_ (by first | exact PySem.IntMulOk.of_right (PySem.intBits_le_64 (by omega) (by omega)) | exact PySem.IntMulOk.of_left (PySem.intBits_le_64 (by omega) (by omega)))); (try dsimp only)))
local macro_rules | `(tactic| walk_at "exec Try") => `(tactic| (refine wpAny_Try_except ?_))
local macro_rules | `(tactic| walk_at "call builtin:len") => `(tactic| (k_here; (rename Got _ _ _ _ _ => gX); (with_reducible show wpAny _ _ (call (Value.builtin "len") [Value.ref _]) _ _ _); (refine' len_got2 ?k1 ?k2 ?_; (case k1 => k_asm); (case k2 => got_up))))
local macro_rules | `(tactic| walk_at "call builtin:list.index") => `(tactic| (k_here; (first
  | (refine' index_list_strs 0 ?k1 ?k2 ?k3 ?k4 ?k5 ?_; (case k1 => is_list); (case k2 => exact .cons _ _ (.cons _ _ (.cons _ _ (.cons _ _ (.cons _ _ .nil))))); (case k3 => exact Nat.le_of_ble_eq_true rfl); (case k4 => exact rfl); (case k5 => exact rfl))
  | (refine' index_list_strs 1 ?k1 ?k2 ?k3 ?k4 ?k5 ?_; (case k1 => is_list); (case k2 => exact .cons _ _ (.cons _ _ (.cons _ _ (.cons _ _ (.cons _ _ .nil))))); (case k3 => exact Nat.le_of_ble_eq_true rfl); (case k4 => exact rfl); (case k5 => exact rfl))
  | (refine' index_list_strs 2 ?k1 ?k2 ?k3 ?k4 ?k5 ?_; (case k1 => is_list); (case k2 => exact .cons _ _ (.cons _ _ (.cons _ _ (.cons _ _ (.cons _ _ .nil))))); (case k3 => exact Nat.le_of_ble_eq_true rfl); (case k4 => exact rfl); (case k5 => exact rfl))
  | (refine' index_list_strs 3 ?k1 ?k2 ?k3 ?k4 ?k5 ?_; (case k1 => is_list); (case k2 => exact .cons _ _ (.cons _ _ (.cons _ _ (.cons _ _ (.cons _ _ .nil))))); (case k3 => exact Nat.le_of_ble_eq_true rfl); (case k4 => exact rfl); (case k5 => exact rfl))
  | (refine' index_list_strs 4 ?k1 ?k2 ?k3 ?k4 ?k5 ?_; (case k1 => is_list); (case k2 => exact .cons _ _ (.cons _ _ (.cons _ _ (.cons _ _ (.cons _ _ .nil))))); (case k3 => exact Nat.le_of_ble_eq_true rfl); (case k4 => exact rfl); (case k5 => exact rfl)))))
local macro_rules | `(tactic| walk_at "subscriptTail Attribute Name Constant ref int") => `(tactic| (k_here; (rename Got _ _ _ _ _ => gX); refine item_tupleT (Got.isTup (by assumption) (by got_up)) (by omega) (by omega) (by rfl) (by rfl) ?_))
local macro_rules | `(tactic| walk_at "units") => `(tactic| ((try simp only [units_deeper, units_in1, units_caller, cLine_is]); first | decide | (simp only [cLine_is] at *; omega)))
/-- what a result tells of a thing: a number, a text, or the very thing -/
inductive Told
  | int (n : Int)
  | str (x : Str)
  | same (v : Value)
def Told.is : Told → Value → Prop
  | .int n, v => ∃ t, v = .int n t
  | .str x, v => ∃ t, v = .str x t
  | .same u, v => v = u
inductive OutEls (nw : List (Addr × Obj)) : List Value → List (Str × Told) → Prop
  | nil : OutEls nw [] []
  | cons {T : Addr} {c : Nat} {k : Str} {t : Tok} {v : Value} {d : Told} {vs : List Value} {es : List (Str × Told)} (hm : (T, ({ cls := .type "tuple", data := .seq #[.str k t, v] c } : Obj)) ∈ nw) (hd : d.is v) (r : OutEls nw vs es) : OutEls nw (.ref T :: vs) ((k, d) :: es)
theorem OutEls.mono {nw nw' : List (Addr × Obj)} (hs : ∀ p ∈ nw, p ∈ nw') : ∀ {vs : List Value} {es : List (Str × Told)}, OutEls nw vs es → OutEls nw' vs es
  | _, _, .nil => .nil
  | _, _, .cons hm hd r => .cons (hs _ hm) hd (r.mono hs)
theorem OutEls.append {nw : List (Addr × Obj)} : ∀ {vs ws : List Value} {es fs : List (Str × Told)}, OutEls nw vs es → OutEls nw ws fs → OutEls nw (vs ++ ws) (es ++ fs)
  | _, _, _, _, .nil, k => k
  | _, _, _, _, .cons hm hd r, k => .cons hm hd (r.append k)
theorem OutEls.length {nw : List (Addr × Obj)} : ∀ {vs : List Value} {es : List (Str × Told)}, OutEls nw vs es → vs.length = es.length
  | _, _, .nil => rfl
  | _, _, .cons _ _ r => congrArg (· + 1) r.length
theorem len5v {ys : List Value} (h : ys.length = 5) : ∃ a b c d e, ys = [a, b, c, d, e] := by
  rcases ys with _ | ⟨a, _ | ⟨b, _ | ⟨c, _ | ⟨d, _ | ⟨e, _ | ⟨f, r⟩⟩⟩⟩⟩⟩ <;> simp only [List.length_cons, List.length_nil] at h <;> first | omega | exact ⟨_, _, _, _, _, rfl⟩
theorem len2v {ys : List Value} (h : ys.length = 2) : ∃ a b, ys = [a, b] := by
  rcases ys with _ | ⟨a, _ | ⟨b, _ | ⟨c, r⟩⟩⟩ <;> simp only [List.length_cons, List.length_nil] at h <;> first | omega | exact ⟨_, _, rfl⟩
def OutIs (nw : List (Addr × Obj)) (R : Addr) (h : Str) (es : List (Str × Told)) : Prop := ∃ (t : Tok) (vs : List Value) (its : Array Value) (c : Nat), its.toList = .str h t :: vs ∧ (R, W.listOf its c) ∈ nw ∧ OutEls nw vs es
section
variable {w : World} {A A₀ : Around} {E : Value → Shared → Prop} {s : Shared} {L : Addr} {h₀ base : Heap} {m mg mb : Str → Option Value} {news : List (Addr × Obj)} {p : Program} {loose : List Str} {mean : ExcName → Option Value} {Q : Value → Shared → Prop} {cn : Str} {cs : Scope} {a₀ : Addr} {ccd : Value}
theorem add_M {prog : Program} {l b : Addr} {i1 i2 : Array Value} {c1 c2 : Nat} (F : Fr h₀ L s.heap m) (N : News h₀ L s.heap news) (h1 : (l, W.listOf i1 c1) ∈ news) (h2 : (b, W.listOf i2 c2) ∈ news)
  (h : ∀ B c h', Fr h₀ L h' m → News h₀ L h' ((B, W.listOf (i1.toList ++ i2.toList).toArray c) :: news) → Q (.ref B) { s with heap := h' })
  (hsz : i1.size + i2.size ≤ sizeLine) : wpAny (model prog w) A (binaryOp .Add (.ref l) (.ref b)) Q E s :=
  add_lists (vs := i1.toList) (ws := i2.toList) F N ⟨_, (N _ h1).1, rfl, _, rfl⟩ ⟨_, (N _ h2).1, rfl, _, rfl⟩ (fun h' F' N' => h _ _ h' F' N') (by simpa using hsz)
/-- what a taken five tells -/
def tk5 (a b c d : Int) (kd : Str) (v5 : Value) : List (Str × Told) := [("whole", .int a), ("whole", .int b), ("whole", .int c), ("whole", .int d), (kd, .same v5)]
/-- what the five tell -/
def outOf (a b c d : Int) (kd : Str) (b5 : Bool) (v5 : Value) : Str × List (Str × Told) :=
  if bad4 a b c d < 4 then ("ValueError", [("else", .str (w5.getD (bad4 a b c d) "")), ("whole", .int ([a, b, c, d].getD (bad4 a b c d) 0))])
  else if b5 then ("taken", tk5 a b c d kd v5)
  else ("ValueError", [("else", .str "fold must be either 0 or 1"), (kd, .same v5)])
theorem ctf1 {outer : List Env} {env : Env} (B : Below A₀ base outer h₀) (F : Fr h₀ L s.heap m) (X : (hd.heap_39 w.params).In h₀) (N : News h₀ L s.heap news) (T : Top p loose mean mg mb h₀) (hA : A.frames = some (env :: outer)) (hf : env.frame = some L) (hke : env.scope.kind = .function)
  (hkd : KtsDicts (outer.filterMap (·.frame)) h₀) (hroom : A.depth + 10 < recursionLimit) (hh : A.handled = none) (hu : A.units + 10 < cLine) {v1 v2 v3 v4 v5 : Value} {a b c d : Int} {kd : Str} {b5 : Bool}
  (i1 : IB v1 a) (i2 : IB v2 b) (i3 : IB v3 c) (i4 : IB v4 d) (K : Fold news v5 kd b5)
  (hok : ∀ h' D tk t1 t2 t3 t4, outOf a b c d kd b5 v5 = (("taken" : Str), tk5 a b c d kd v5) → Fr h₀ L h' m → News h₀ L h' ((D, { cls := .type "tuple", data := .seq #[.int a t1, .int b t2, .int c t3, .int d t4, v5] }) :: news) → AllLt D news → Q (.ref D) { s with heap := h', toks := tk })
  (hbad : ∀ g h' e' t tk tk' (x1 : Str) v2 (k2 : Str) b2 d2, outOf a b c d kd b5 v5 = (("ValueError" : Str), [(("else" : Str), .str x1), (k2, d2)]) → Told.is d2 v2 → Fold news v2 k2 b2 → Fr h₀ L g m → RaisedS base g (env :: outer) e' (.type "ValueError") t [.str x1 tk', v2] news h' → g.UpToSlots h' → C2 h' e' → E (.ref e') { s with heap := h', toks := tk }) :
  wpAny (model PySem.Challenge.rw_km0086_03.row.prog w) A (call (.ref 39) [v1, v2, v3, v4, v5]) Q E s := by
  refine ctf B F X N T hA hf hke hkd hroom hh hu i1 i2 i3 i4 K ?_ ?_ ?_
  · intro h' D tk t1 t2 t3 t4 e1 e2 F' N' l'
    exact hok h' D tk t1 t2 t3 t4 (by simp only [outOf, e1, e2]; rfl) F' N' l'
  · intro k x g h' e' t tk tk' tx e1 e2 e3 F' R' U' C'
    refine hbad g h' e' t tk tk' _ _ _ _ (.int x) ?_ ⟨_, rfl⟩ (.int x tx) F' R' U' C'
    have e4 : [a, b, c, d].getD k 0 = x := by rw [List.getD_eq_getElem?_getD, e3]; rfl
    simp only [outOf, e1, e2, if_true, e4]
  · intro g h' e' t tk tk' e1 e2 F' R' U' C'
    refine hbad g h' e' t tk tk' _ _ kd _ (.same v5) ?_ rfl K F' R' U' C'
    simp only [outOf, e1, e2]; rfl
theorem outcome (B : Below A₀ base [] h₀) (F : Fr h₀ L s.heap m) (X : (hd.heap_39 w.params).In h₀) (XB : (hd.heap_39 w.params).In base) (TB : Top p loose mean mg mb base) (N : News h₀ L s.heap news) (T : Top p loose mean mg mb h₀) (hA : A.frames = some [envOf cn cs L a₀ ccd]) (hck : cs.kind = .function)
  (hroom : A.depth + 20 < recursionLimit) (hh : A.handled = none) (hu : A.units + 20 < cLine) {lf : Addr} {cf : Nat} {v1 v2 v3 v4 v5 : Value} {a b c d : Int} {kd : Str} {b5 : Bool}
  (hm : (lf, W.listOf #[v1, v2, v3, v4, v5] cf) ∈ news) (i1 : IB v1 a) (i2 : IB v2 b) (i3 : IB v3 c) (i4 : IB v4 d) (K : Fold news v5 kd b5)
  (hok : ∀ h' tk R nw', Fr h₀ L h' m → News h₀ L h' nw' → (∀ p ∈ news, p ∈ nw') → OutIs nw' R (outOf a b c d kd b5 v5).1 (outOf a b c d kd b5 v5).2 → Q (.ref R) { s with heap := h', toks := tk }) :
  wpAny (model PySem.Challenge.rw_km0086_03.row.prog w) A (call (.ref 51) [.ref lf]) Q E s := by
  w_top off
  refine wpAny_call ?_
  refine' code_defS0 B F X N T hA ?k6 ?k7 ?k8 ?k9 ?kB ?_ hck ?c2 ?c3 ?c4 ?c5
  case k6 => k_is
  case k7 => k_is
  case k8 => k_room
  case k9 => exact BindsTo.of_eq rfl
  case kB => exact locs rfl
  case c2 => exact rfl
  case c3 => exact rfl
  case c4 => exact rfl
  case c5 => decide
  intro g' L' h' FG' F' N' B' X' T' D'
  have N1 := news_cons N' hm
  have hlt' := news_lt N1
  simp only [AllLt] at hlt'
  (try dsimp only)
  k_steps
  (with_reducible rename Fr g' _ _ _ => F8)
  (with_reducible rename News g' _ _ _ => N8)
  refine ctf1 B' F8 X' N8 T' (Around.frames_deeper B'.stack) rfl rfl D' (by k_room) hh (by walk_at "units") i1 i2 i3 i4 (K.mono fun p hp => .tail _ hp) ?_ ?_
  · intro h9 D9 tk9 t1 t2 t3 t4 hb9 F9 N9 l9
    dsimp only
    k_steps
    (with_reducible rename Fr g' _ _ _ => FL)
    (with_reducible rename News g' _ _ _ => NL)
    refine nmN NL ?_
    intro nwb enb
    refine ListComp_tupJ (ax := D9) (fun i ys nw => (∀ p ∈ nwb, p ∈ nw) ∧ OutEls nw ys ((tk5 a b c d kd v5).take i)) FL NL ⟨fun p hp => enb ▸ hp, .nil⟩ (.inl hh) (fun i ys nw q => q.1 _ (by rw [enb]; k_mem)) (Nat.le_of_ble_eq_true rfl) ?_ (by with_unfolding_all rfl) (by decide) (by with_unfolding_all rfl) (by decide) (by with_unfolding_all rfl) (by intro _; with_unfolding_all rfl) ?_ ?_
    · intro Q' hQ'
      k_steps
      exact hQ'
    · rintro i v ys nw I oI C oC D m₂ h tk E' hv ⟨hsub, hO⟩ hC hm2 FC NC off dist
      have hoff := Off3.mem off
      have Kw : Fold nw v5 kd b5 := K.mono fun p hp => hsub p (by rw [enb]; exact .tail _ (.tail _ (.tail _ hp)))
      obtain ⟨k2, d2, b2, hes, hds, K2⟩ : ∃ k2 d2 b2, (tk5 a b c d kd v5)[i]? = some (k2, d2) ∧ Told.is d2 v ∧ Fold nw v k2 b2 := by
        have hi : i = 0 ∨ i = 1 ∨ i = 2 ∨ i = 3 ∨ i = 4 := by
          have := (Array.getElem?_eq_some_iff.mp hv).1
          simp at this
          omega
        rcases hi with rfl | rfl | rfl | rfl | rfl
        · obtain rfl : Value.int a t1 = v := by simpa using hv
          exact ⟨_, _, _, rfl, ⟨_, rfl⟩, .int _ _⟩
        · obtain rfl : Value.int b t2 = v := by simpa using hv
          exact ⟨_, _, _, rfl, ⟨_, rfl⟩, .int _ _⟩
        · obtain rfl : Value.int c t3 = v := by simpa using hv
          exact ⟨_, _, _, rfl, ⟨_, rfl⟩, .int _ _⟩
        · obtain rfl : Value.int d t4 = v := by simpa using hv
          exact ⟨_, _, _, rfl, ⟨_, rfl⟩, .int _ _⟩
        · obtain rfl : v5 = v := by simpa using hv
          exact ⟨_, _, _, rfl, rfl, Kw⟩
      have hlt2 := news_lt NC
      simp only [AllLt] at hlt2
      clear FL NL
      k_steps
      refine kind_call B' FC X' NC T' (Around.frames_deeper B'.stack) rfl rfl (by k_room) (K2.mono fun p hp => .tail _ (.tail _ (.tail _ hp))) ?_
      intro h5 tk5 t5 F5 N5
      k_steps
      (with_reducible rename Fr g' _ _ _ => FT)
      (with_reducible rename News g' _ _ _ => NT)
      rename (_ < _ ∧ _ < _ ∧ _ < _ ∧ AllLt _ nw) => l8
      refine nm1o NT ?_
      intro Tn on e1 e2
      subst e1
      rw [← e2] at NT
      refine CompEnd.intro FT NT ((Tn, on) :: nw) (by walk_at "mem all") ?_ trivial ⟨fun p hp => .tail _ (hsub p hp), ?_⟩
      · exact Off3.of (List.forall_mem_cons.mpr ⟨⟨by k_ne, by k_ne, by k_ne⟩, hoff⟩)
      · rw [List.take_add_one, hes]
        exact (hO.mono fun p hp => .tail _ hp).append (.cons (by rw [e2]; exact .head _) hds .nil)
    · rintro D6 h6 tk6 ys nw F6 N6 o6 ⟨hsub, hO⟩
      dsimp only
      have hyl := hO.length
      obtain ⟨y1, y2, y3, y4, y5, rfl⟩ := len5v (ys := ys) (by rw [hyl]; rfl)
      k_steps
      simp only [enb, List.forall_mem_cons] at hsub
      refine add_M F6 N6 (.tail _ hsub.1) (.head _) ?_ (Nat.le_of_ble_eq_true rfl)
      intro BL cL hL FLx NLx
      dsimp only
      k_steps
      (with_reducible rename Fr h₀ L _ m => FE)
      (with_reducible rename News h₀ L _ _ => NLx')
      refine hok _ _ _ _ FE NLx' (fun p hp => .tail _ (.tail _ (hsub.2.2.2 p hp))) ?_
      rw [hb9]
      exact ⟨_, _, _, _, rfl, .head _, hO.mono fun p hp => .tail _ (.tail _ hp)⟩
  · intro g9 h9 e9 tt9 tk9 tk9' x1 v2' k2 b2 d2 hb9 ht9 K9 F9 R9 U9 C9
    dsimp only
    refine lookC R9 C9 B' U9 fun h10 R10 U10 C10 => ?_
    refine passC (KF := hd.heap_39 w.params) R10 C10 F9 B' U10 XB TB (test_name (c := .type "TypeError") ?_ ?_ rfl rfl (by decide)) fun h11 R11 U11 C11 => ?_
    · exact .inr ⟨by k_is, by boot_by_name, by decide +kernel⟩
    · kts_exm
    refine hitC (KF := hd.heap_39 w.params) R11 C11 F9 B' U11 XB TB D' KtsTurn.refl (test_name (c := .type "ValueError") ?_ ?_ rfl rfl (by decide)) ?_
    · exact .inr ⟨by k_is, by boot_by_name, by decide +kernel⟩
    · kts_exm
    intro h12 g12 newsA tkA K12 FA NA GA NB B12 X12 T12 D12
    obtain ⟨oe, ot, ws, nt, me, mt, hec, hed, hw0, hw2, htc, htd⟩ := id GA
    have NM : News g12 L' h12 (newsA ++ ((lf, W.listOf #[v1, v2, v3, v4, v5] cf) :: news)) := fun p hp => (List.mem_append.mp hp).elim (NA p) (NB p)
    have me' := List.mem_append_left ((lf, W.listOf #[v1, v2, v3, v4, v5] cf) :: news) me
    have mt' := List.mem_append_left ((lf, W.listOf #[v1, v2, v3, v4, v5] cf) :: news) mt
    have mn' : ∀ p ∈ (lf, W.listOf #[v1, v2, v3, v4, v5] cf) :: news, p ∈ newsA ++ ((lf, W.listOf #[v1, v2, v3, v4, v5] cf) :: news) := fun p hp => List.mem_append_right _ hp
    generalize newsA ++ ((lf, W.listOf #[v1, v2, v3, v4, v5] cf) :: news) = nwm at NM me' mt' mn'
    have GM : Got nwm e9 tt9 (.type "ValueError") [.str x1 tk9', v2'] := ⟨oe, ot, ws, nt, me', mt', hec, hed, hw0, htc, htd⟩
    clear GA NA NB
    k_steps
    (with_reducible rename Fr g12 _ _ _ => FL)
    (with_reducible rename News g12 _ _ _ => NL)
    refine nmN NL ?_
    intro nwb enb
    have meb : (e9, oe) ∈ nwb := by rw [enb]; exact .tail _ me'
    have mtb : (tt9, ot) ∈ nwb := by rw [enb]; exact .tail _ mt'
    have mnb : ∀ p ∈ (lf, W.listOf #[v1, v2, v3, v4, v5] cf) :: news, p ∈ nwb := by rw [enb]; exact fun p hp => .tail _ (mn' p hp)
    refine ListComp_tupO (ax := tt9) (items := #[.str x1 tk9', v2']) ot (fun i ys nw => (∀ p ∈ nwb, p ∈ nw) ∧ OutEls nw ys (([(("else" : Str), Told.str x1), (k2, d2)] : List (Str × Told)).take i)) FL NL ⟨fun p hp => enb ▸ hp, .nil⟩ (.inr ⟨e9, oe, ws, rfl, hed, hw2, fun i ys nw q => q.1 _ meb⟩) htc htd (fun i ys nw q => q.1 _ mtb) (Nat.le_of_ble_eq_true rfl) ?_ (by with_unfolding_all rfl) (by decide) (by with_unfolding_all rfl) (by decide) (by with_unfolding_all rfl) (by intro _; with_unfolding_all rfl) ?_ ?_
    · intro Q' hQ'
      k_steps
      refine args_got_builtin PySem.F.attr_ValueError NL (Got.more GM _) ?_
      exact hQ' _
    · rintro i v ys nw I oI C oC D m₂ h tk E' hv ⟨hsub, hO⟩ hC hm2 FC NC off dist
      have hoff := Off3.mem off
      obtain ⟨k3, d3, b3, hes, hds, K3⟩ : ∃ k3 d3 b3, ([(("else" : Str), Told.str x1), (k2, d2)] : List (Str × Told))[i]? = some (k3, d3) ∧ Told.is d3 v ∧ Fold nw v k3 b3 := by
        have hi : i = 0 ∨ i = 1 := by
          have := (Array.getElem?_eq_some_iff.mp hv).1
          simp at this
          omega
        rcases hi with rfl | rfl
        · obtain rfl : Value.str x1 tk9' = v := by simpa using hv
          exact ⟨_, _, _, rfl, ⟨_, rfl⟩, .str _ _⟩
        · obtain rfl : v2' = v := by simpa using hv
          exact ⟨_, _, _, rfl, ht9, K9.mono fun p hp => hsub p (mnb p hp)⟩
      have hlt2 := news_lt NC
      simp only [AllLt] at hlt2
      clear FL NL
      k_steps
      refine' kind_call B12 FC X12 NC T12 ?hAf ?hff ?hkk ?hrr (K3.mono fun p hp => .tail _ (.tail _ (.tail _ hp))) ?_
      case hAf => exact Around.frames_deeper B12.stack
      case hff => exact rfl
      case hkk => exact rfl
      case hrr =>
        have hr : A.depth + 1 + 10 < recursionLimit := by omega
        exact hr
      intro h5 tk5 t5 F5 N5
      k_steps
      (with_reducible rename Fr g12 _ _ _ => FT)
      (with_reducible rename News g12 _ _ _ => NT)
      rename (_ < _ ∧ _ < _ ∧ _ < _ ∧ AllLt _ nw) => l8
      refine nm1o NT ?_
      intro Tn on e1 e2
      subst e1
      rw [← e2] at NT
      refine CompEnd.intro FT NT ((Tn, on) :: nw) (by walk_at "mem all") ?_ trivial ⟨fun p hp => .tail _ (hsub p hp), ?_⟩
      · exact Off3.of (List.forall_mem_cons.mpr ⟨⟨by k_ne, by k_ne, by k_ne⟩, hoff⟩)
      · rw [List.take_add_one, hes]
        exact (hO.mono fun p hp => .tail _ hp).append (.cons (by rw [e2]; exact .head _) hds .nil)
    · rintro D6 h6 tk6 ys nw F6 N6 o6 ⟨hsub, hO⟩
      dsimp only
      have hyl := hO.length
      obtain ⟨y1, y2, rfl⟩ := len2v (ys := ys) (by rw [hyl]; rfl)
      have hsubn : ∀ p ∈ news, p ∈ nw := fun p hp => hsub p (mnb p (.tail _ hp))
      simp only [enb, List.forall_mem_cons] at hsub
      refine add_M F6 N6 (.tail _ hsub.1) (.head _) ?_ (Nat.le_of_ble_eq_true rfl)
      intro BL cL hL FLx NLx
      dsimp only
      k_steps
      (with_reducible rename Fr h₀ L _ m => FE)
      (with_reducible rename News h₀ L _ _ => NLx')
      refine hok _ _ _ _ FE NLx' (fun p hp => .tail _ (.tail _ (hsubn p hp))) ?_
      rw [hb9]
      exact ⟨_, _, _, _, rfl, .head _, hO.mono fun p hp => .tail _ (.tail _ hp)⟩
end
end Mine
end
section
open PySem PySem.W PyProof.Rows PySem.Calls LCg
set_option maxRecDepth 100000
set_option maxHeartbeats 8000000
set_option rowWalk.seconds 0
namespace Mine
local macro_rules | `(tactic| k_room) => `(tactic| ((try simp only [depth_under_make, depth_under_kw, depth_in1, depth_deeper, depth_caller]); first | decide | omega | (simp only [recursionLimit] at *; omega)))
local macro_rules | `(tactic| walk_at "my stop") => `(tactic| ((fail_if_success (with_reducible show wpAny _ _ (pyIter _) (fun it s₂ => LoopAtV _ _ _ _ _ _ _ _ _ it s₂) _ _)); (fail_if_success (with_reducible show wpAny _ _ (call (Value.ref _) _ _) _ _ _)); (fail_if_success (with_reducible show wpAny _ _ (eval (Expr.ListComp _ _ _ _) _) _ _ _)); (fail_if_success (with_reducible show wpAny _ _ (noteFrame _ _) _ _ _)); skip))
local macro_rules | `(tactic| k_steps) => `(tactic| repeat' (first | (k_unfold; (try dsimp only)) | (k_end; wrow_close) | (walk_at "my stop"; walk1) | (walk_at "my stop"; dsimp only; walk1) | (leave1; walk_say "STEP leave1"; try dsimp only) | fail "no step"))
local macro_rules | `(tactic| walk_at "mem tail") => `(tactic| (intro p hp; repeat (first | exact hp | refine List.Mem.tail _ ?_)))
local macro_rules | `(tactic| walk_at "mem all") => `(tactic| repeat' (first | exact List.forall_mem_nil _ | (refine List.forall_mem_cons.mpr ⟨?_, ?_⟩) | k_mem | walk_at "mem tail"))
local macro_rules | `(tactic| walk_at "off all") => `(tactic| repeat' (first | exact List.forall_mem_nil _ | (refine List.forall_mem_cons.mpr ⟨?_, ?_⟩) | k_ne))
local macro_rules | `(tactic| k_all) => `(tactic| assumption)
local macro_rules | `(tactic| walk_at "binaryOp Mult int int") => `(tactic| ((with_reducible refine mul_int ?_ (by first | exact PySem.IntMulOk.of_right (PySem.intBits_le_64 (by omega) (by omega)) | exact PySem.IntMulOk.of_left (PySem.intBits_le_64 (by omega) (by omega)))); (try dsimp only)))
local macro_rules | `(tactic| walk_at "exec Try") => `(tactic| (refine wpAny_Try_except ?_))
local macro_rules | `(tactic| walk_at "call builtin:len") => `(tactic| (k_here; (rename Got _ _ _ _ _ => gX); (with_reducible show wpAny _ _ (call (Value.builtin "len") [Value.ref _]) _ _ _); (refine' len_got2 ?k1 ?k2 ?_; (case k1 => k_asm); (case k2 => got_up))))
local macro_rules | `(tactic| walk_at "call builtin:list.index") => `(tactic| (k_here; (first
  | (refine' index_list_strs 0 ?k1 ?k2 ?k3 ?k4 ?k5 ?_; (case k1 => is_list); (case k2 => exact .cons _ _ (.cons _ _ (.cons _ _ (.cons _ _ (.cons _ _ .nil))))); (case k3 => exact Nat.le_of_ble_eq_true rfl); (case k4 => exact rfl); (case k5 => exact rfl))
  | (refine' index_list_strs 1 ?k1 ?k2 ?k3 ?k4 ?k5 ?_; (case k1 => is_list); (case k2 => exact .cons _ _ (.cons _ _ (.cons _ _ (.cons _ _ (.cons _ _ .nil))))); (case k3 => exact Nat.le_of_ble_eq_true rfl); (case k4 => exact rfl); (case k5 => exact rfl))
  | (refine' index_list_strs 2 ?k1 ?k2 ?k3 ?k4 ?k5 ?_; (case k1 => is_list); (case k2 => exact .cons _ _ (.cons _ _ (.cons _ _ (.cons _ _ (.cons _ _ .nil))))); (case k3 => exact Nat.le_of_ble_eq_true rfl); (case k4 => exact rfl); (case k5 => exact rfl))
  | (refine' index_list_strs 3 ?k1 ?k2 ?k3 ?k4 ?k5 ?_; (case k1 => is_list); (case k2 => exact .cons _ _ (.cons _ _ (.cons _ _ (.cons _ _ (.cons _ _ .nil))))); (case k3 => exact Nat.le_of_ble_eq_true rfl); (case k4 => exact rfl); (case k5 => exact rfl))
  | (refine' index_list_strs 4 ?k1 ?k2 ?k3 ?k4 ?k5 ?_; (case k1 => is_list); (case k2 => exact .cons _ _ (.cons _ _ (.cons _ _ (.cons _ _ (.cons _ _ .nil))))); (case k3 => exact Nat.le_of_ble_eq_true rfl); (case k4 => exact rfl); (case k5 => exact rfl)))))
local macro_rules | `(tactic| walk_at "subscriptTail Attribute Name Constant ref int") => `(tactic| (k_here; (rename Got _ _ _ _ _ => gX); refine item_tupleT (Got.isTup (by assumption) (by got_up)) (by omega) (by omega) (by rfl) (by rfl) ?_))
local macro_rules | `(tactic| walk_at "units") => `(tactic| ((try simp only [units_deeper, units_in1, units_caller, cLine_is]); first | decide | (simp only [cLine_is] at *; omega)))
section
variable {w : World} {A A₀ : Around} {E : Value → Shared → Prop} {s : Shared} {L : Addr} {h₀ base : Heap} {m mg mb : Str → Option Value} {news : List (Addr × Obj)} {p : Program} {loose : List Str} {mean : ExcName → Option Value} {Q : Value → Shared → Prop} {cn : Str} {cs : Scope} {a₀ : Addr} {ccd : Value}
theorem Strange.mono {nw nw' : List (Addr × Obj)} (hs : ∀ p ∈ nw, p ∈ nw') {v : Value} (x : Strange nw v) : Strange nw' v := ⟨x.1.elim fun k y => y.elim fun b K => ⟨k, b, K.mono hs⟩, x.2⟩
theorem strange3_mono {nw nw' : List (Addr × Obj)} (hs : ∀ p ∈ nw, p ∈ nw') {v1 v2 v3 v4 : Value} {P1 P2 P3 : Prop} (x : Strange nw v1 ∨ P1 ∧ (Strange nw v2 ∨ P2 ∧ (Strange nw v3 ∨ P3 ∧ Strange nw v4))) : Strange nw' v1 ∨ P1 ∧ (Strange nw' v2 ∨ P2 ∧ (Strange nw' v3 ∨ P3 ∧ Strange nw' v4)) := by
  rcases x with x | ⟨a, x | ⟨b, x | ⟨c, x⟩⟩⟩
  · exact .inl (x.mono hs)
  · exact .inr ⟨a, .inl (x.mono hs)⟩
  · exact .inr ⟨a, .inr ⟨b, .inl (x.mono hs)⟩⟩
  · exact .inr ⟨a, .inr ⟨b, .inr ⟨c, x.mono hs⟩⟩⟩
theorem outcomeT (B : Below A₀ base [] h₀) (F : Fr h₀ L s.heap m) (X : (hd.heap_39 w.params).In h₀) (XB : (hd.heap_39 w.params).In base) (TB : Top p loose mean mg mb base) (N : News h₀ L s.heap news) (T : Top p loose mean mg mb h₀) (hA : A.frames = some [envOf cn cs L a₀ ccd]) (hck : cs.kind = .function)
  (hroom : A.depth + 20 < recursionLimit) (hh : A.handled = none) {lf : Addr} {cf : Nat} {v1 v2 v3 v4 v5 : Value}
  (hm : (lf, W.listOf #[v1, v2, v3, v4, v5] cf) ∈ news)
  (H : Strange news v1 ∨ (∃ n, IB v1 n) ∧ (Strange news v2 ∨ (∃ n, IB v2 n) ∧ (Strange news v3 ∨ (∃ n, IB v3 n) ∧ Strange news v4)))
  (hok : ∀ h' tk R t c nw', Fr h₀ L h' m → News h₀ L h' nw' → (∀ p ∈ news, p ∈ nw') → (R, W.listOf #[.str "TypeError" t] c) ∈ nw' → Q (.ref R) { s with heap := h', toks := tk }) :
  wpAny (model PySem.Challenge.rw_km0086_03.row.prog w) A (call (.ref 51) [.ref lf]) Q E s := by
  w_top off
  refine wpAny_call ?_
  refine' code_defS0 B F X N T hA ?k6 ?k7 ?k8 ?k9 ?kB ?_ hck ?c2 ?c3 ?c4 ?c5
  case k6 => k_is
  case k7 => k_is
  case k8 => k_room
  case k9 => exact BindsTo.of_eq rfl
  case kB => exact locs rfl
  case c2 => exact rfl
  case c3 => exact rfl
  case c4 => exact rfl
  case c5 => decide
  intro g' L' h' FG' F' N' B' X' T' D'
  have N1 := news_cons N' hm
  have hlt' := news_lt N1
  simp only [AllLt] at hlt'
  (try dsimp only)
  k_steps
  (with_reducible rename Fr g' _ _ _ => F8)
  (with_reducible rename News g' _ _ _ => N8)
  refine cty B' F8 X' N8 T' (Around.frames_deeper B'.stack) rfl rfl D' (by k_room) hh (strange3_mono (fun p hp => .tail _ hp) H) ?_
  intro g9 h9 e9 tk9 F9 R9 U9
  dsimp only
  refine caught_SN0 (KF := hd.heap_39 w.params) R9 F9 B' U9 XB TB D' KtsTurn.refl (by k_is) (by boot_by_name) (by decide +kernel) PySem.F.isExc_TypeError PySem.F.notTuple_TypeError (by rw [isSubtype_type]; kernel_rfl) ?_
  intro h12 g12 K12 FA NA B12 X12 T12 D12
  k_steps
  (with_reducible rename Fr h₀ L _ m => FE)
  (with_reducible rename News h₀ L _ _ => NE)
  exact hok _ _ _ _ _ _ FE NE (fun p hp => .tail _ (.tail _ hp)) (.head _)
end
end Mine
end
section
open PySem PySem.W PyProof.Rows PySem.Calls PySem.Spec
set_option maxRecDepth 100000
namespace Mine
open LCg LCt
section
variable {prog : Program} {w : World} {A : Around} {E : Value → Shared → Prop} {s : Shared} {h₀ : Heap} {L : Addr} {m : Str → Option Value} {env : Env}
theorem compRest_invS {elt : Expr} {x : Str} {scope : Scope} {cl : List (Str × Addr)} {items : Array Value} {S : List (Addr × Obj) → Prop} {Fin : List Value → List (Addr × Obj) → Prop} (J : Nat → List Value → List (Addr × Obj) → Prop)
    (hk : ∀ i ys nw, J i ys nw → S nw)
    (turn : ∀ i v ys nw I oI C oC D m₂ h tk (E' : Value → Shared → Prop), items[i]? = some v → J i ys nw → NsObj oC m₂ → m₂ x = some v → Fr h₀ L h m → News h₀ L h ((I, oI) :: (C, oC) :: (D, lst ys) :: nw) → Off3 I C D nw → ((@Ne Nat I C) ∧ (@Ne Nat I D) ∧ (@Ne Nat C D)) →
      wpAny (model prog w) A (eval elt (compEnvC scope cl C env)) (CompEnd h₀ L m { s with heap := h, toks := tk } I oI C oC D (lst ys) (fun _ => True) (fun y nw' => J (i + 1) (ys ++ [y]) nw')) E' { s with heap := h, toks := tk })
    (done : ∀ ys nw, J items.size ys nw → Fin ys nw) :
    ∀ k i ys nw, i + k = items.size → J i ys nw → CompRest prog w A h₀ L m env elt x scope cl s S (fun i v => items[i]? = some v) Fin k i ys nw
  | 0, i, ys, nw, e, hJ => done ys nw (by have : i = items.size := by omega
                                          rw [← this]; exact hJ)
  | k + 1, i, ys, nw, e, hJ => fun v I oI C oC D m₂ h tk E' hP hC hm F N off d => by
    refine wpAny_mono (turn i v ys nw I oI C oC D m₂ h tk E' hP hJ hC hm F N off d) (fun y s' q => ?_) fun _ _ e => e
    obtain ⟨h', tk', nw', rfl, F', N', off', _, r⟩ := q
    exact ⟨h', tk', nw', rfl, F', N', off', hk _ _ _ r, compRest_invS J hk turn done k (i + 1) _ nw' (by omega) r⟩

def SrcJ (prog : Program) (w : World) (A : Around) (h₀ : Heap) (L : Addr) (m : Str → Option Value) (env : Env) (elt : Expr) (x : Str) (scope : Scope) (cl : List (Str × Addr)) (Q : Value → Shared → Prop) (xv : Value) (s₁ : Shared) : Prop :=
  ∃ (J : Nat → List Value → List (Addr × Obj) → Prop) (ax : Addr) (items : Array Value) (n : Nat) (news : List (Addr × Obj)), xv = .ref ax ∧ A.handled = none ∧ Fr h₀ L s₁.heap m ∧ News h₀ L s₁.heap news ∧ items.size ≤ sizeLine ∧ J 0 [] news ∧ (∀ i ys nw, J i ys nw → (ax, W.listOf items n) ∈ nw) ∧
    (∀ i v ys nw I oI C oC D m₂ h tk (E' : Value → Shared → Prop), items[i]? = some v → J i ys nw → NsObj oC m₂ → m₂ x = some v → Fr h₀ L h m → News h₀ L h ((I, oI) :: (C, oC) :: (D, lst ys) :: nw) → Off3 I C D nw → ((@Ne Nat I C) ∧ (@Ne Nat I D) ∧ (@Ne Nat C D)) →
      wpAny (model prog w) A (eval elt (compEnvC scope cl C env)) (CompEnd h₀ L m { s₁ with heap := h, toks := tk } I oI C oC D (lst ys) (fun _ => True) (fun y nw' => J (i + 1) (ys ++ [y]) nw')) E' { s₁ with heap := h, toks := tk }) ∧
    (∀ D h tk ys nw, Fr h₀ L h m → News h₀ L h ((D, lst ys) :: nw) → Off1 D nw → J items.size ys nw → Q (.ref D) { s₁ with heap := h, toks := tk })
/-- a list comprehension over a list of the ledger, by an invariant -/
theorem ListComp_listJ {elt iter : Expr} {x : Str} {px : Pos} {scope : Scope} {cl : List (Str × Addr)} {pos : Pos} {Q : Value → Shared → Prop} (F₀ : Fr h₀ L s.heap m)
    (hclos : closureFor scope env = pure cl) (hcell : ∀ y ∈ scope.names, y.2 ≠ .cell) (hkind : scope.kind = .function)
    (hnames : ∀ y ∈ scope.names, y.2 = .local → scope.names.lookup y.1 = some .local) (hx : scope.names.lookup x = some .local) (hs : ∀ x, foldedSetIterable iter env x = pure x)
    (h : wpAny (model prog w) A (eval iter env) (SrcJ prog w A h₀ L m env elt x scope cl Q) E s) :
    wpAny (model prog w) A (eval (.ListComp elt [⟨.Name x px, iter, [], 0⟩] scope pos) env) Q E s := by
  refine ListComp_U F₀ hclos hcell hkind hnames hx (wpAny_mono h (fun xv s₁ q => ?_) fun _ _ e => e) hs
  obtain ⟨J, ax, items, n, news, rfl, hh, F, N, hsz, hj, ht, turn, fin⟩ := q
  refine CompSrc.ledger hh F N (ht _ _ _ hj) hsz fun g => ?_
  exact compRest_invS (s := { s₁ with heap := g }) J (fun i ys nw q => .inr ⟨_, ht _ _ _ q, rfl, _, rfl⟩) (fun i v ys nw I oI C oC D m₂ h tk E' a b c d e f g k => turn i v ys nw I oI C oC D m₂ h tk E' a b c d e f g k) (fun ys nw q D h tk F' N' o => fin D h tk ys nw F' N' o q) _ 0 [] news (Nat.zero_add _) hj
/-- the numbers below n -/
def upto (n : Nat) : List Int := (List.range n).map Int.ofNat
theorem upto_succ (n : Nat) : upto (n + 1) = upto n ++ [(n : Int)] := by simp [upto, List.range_succ]
theorem compRestT_range {ct : Expr} {x : Str} {pe : Pos} {scope : Scope} {cl : List (Str × Addr)} {Fin : List Value → List (Addr × Obj) → Prop} {news : List (Addr × Obj)} {n : Nat} (q : Int → Bool)
    (hfin : ∀ ys, IntsAre ys ((upto n).filter q) → Fin ys news) (hkind : scope.kind = .function) (hx : scope.names.lookup x = some .local) (hd : (x == ("__debug__" : Str)) = false)
    (htest : ∀ (i : Nat) (t : Tok) (ys : List Value) (I : Addr) (oI : Obj) (C : Addr) (oC : Obj) (D : Addr) (m₂ : Str → Option Value) (h : Heap) (tk : Nat) (E' : Value → Shared → Prop), i < n → NsObj oC m₂ → m₂ x = some (.int (i : Int) t) → Fr h₀ L h m → News h₀ L h ((I, oI) :: (C, oC) :: (D, lst ys) :: news) →
      wpAny (model prog w) A (isTrue ct (compEnvC scope cl C env) (eval ct (compEnvC scope cl C env))) (TestIs h₀ L m { s with heap := h, toks := tk } ((I, oI) :: (C, oC) :: (D, lst ys) :: news) (q i)) E' { s with heap := h, toks := tk }) :
    ∀ k i ys, i + k = n → IntsAre ys ((upto i).filter q) → CompRestT prog w A h₀ L m env ct (.Name x pe) x scope cl s (fun _ => True) (fun i v => ∃ t, v = .int (0 + (i : Int)) t) Fin k i ys news
  | 0, i, ys, hk, hi => hfin ys (by have e : i = n := by omega
                                    rw [← e]; exact hi)
  | k + 1, i, ys, hk, hi => fun v I oI C oC D m₂ h tk E' hP hC hm F N off d => by
    obtain ⟨t, rfl⟩ := hP
    have e0 : 0 + (i : Int) = i := Int.zero_add _
    rw [e0] at hm
    have rest := compRestT_range (pe := pe) q hfin hkind hx hd htest k (i + 1)
    refine wpAny_mono (htest i t _ I oI C oC D m₂ h tk E' (by omega) hC hm F N) (fun ok s' q' => ?_) fun _ _ e => e
    obtain ⟨rfl, h', tk', rfl, F', N'⟩ := q'
    cases hp : q i with
    | false =>
      simp only [Bool.false_eq_true, if_false]
      exact ⟨h', tk', news, rfl, F', N', off, trivial, rest _ (by omega) (by rw [upto_succ, List.filter_append]; simpa [hp] using hi)⟩
    | true =>
      simp only [if_true]
      refine LCgL.ld_own N' (.tail _ (.head _)) hC hm ?_ (by simp [compEnvC, relabel, hkind]) (lookup_relabel_local hx) hd
      exact ⟨h', tk', news, rfl, F', N', off, trivial, rest _ (by omega) (by rw [upto_succ, List.filter_append]; simpa [hp] using hi.append (.cons _ _ .nil))⟩
end
end Mine
end
section
open PySem PySem.W PyProof.Rows
namespace Mine
def cntI (a b c d : Int) : Nat → Int
  | 0 => 0
  | 1 => 0 * 24 + a
  | 2 => (0 * 24 + a) * 60 + b
  | 3 => ((0 * 24 + a) * 60 + b) * 60 + c
  | _ => (((0 * 24 + a) * 60 + b) * 60 + c) * 1000000 + d
def digI (n : Int) : List Int := [(((n.fdiv 1000000).fdiv 60).fdiv 60).fmod 24, ((n.fdiv 1000000).fdiv 60).fmod 60, (n.fdiv 1000000).fmod 60, n.fmod 1000000]
theorem fd (x : Int) {y : Int} (h : 0 ≤ y) : x.fdiv y = x / y := Int.fdiv_eq_ediv_of_nonneg _ h
theorem fm (x : Int) {y : Int} (h : 0 ≤ y) : x.fmod y = x % y := Int.fmod_eq_emod_of_nonneg _ h
theorem bad4_good {a b c d : Int} (h : ¬ bad4 a b c d < 4) : (0 ≤ a ∧ a < 24) ∧ (0 ≤ b ∧ b < 60) ∧ (0 ≤ c ∧ c < 60) ∧ 0 ≤ d ∧ d < 1000000 := by
  unfold bad4 at h
  repeat' split at h
  all_goals omega
theorem cnt_good {a b c d : Int} (h : ¬ bad4 a b c d < 4) : (((((cntI a b c d 4).fdiv 1000000).fdiv 60).fdiv 60).fdiv 24) = 0 ∧ digI (cntI a b c d 4) = [a, b, c, d] := by
  have g := bad4_good h
  simp only [digI, cntI, fd _ (show (0 : Int) ≤ 24 by decide), fd _ (show (0 : Int) ≤ 60 by decide), fd _ (show (0 : Int) ≤ 1000000 by decide), fm _ (show (0 : Int) ≤ 24 by decide), fm _ (show (0 : Int) ≤ 60 by decide), fm _ (show (0 : Int) ≤ 1000000 by decide), List.cons.injEq, and_true]
  refine ⟨by omega, by omega, by omega, by omega, by omega⟩
theorem cnt_bad {a b c d n : Int} (h : bad4 a b c d < 4) (e : digI n = [a, b, c, d]) : False := by
  simp only [digI, fd _ (show (0 : Int) ≤ 24 by decide), fd _ (show (0 : Int) ≤ 60 by decide), fd _ (show (0 : Int) ≤ 1000000 by decide), fm _ (show (0 : Int) ≤ 24 by decide), fm _ (show (0 : Int) ≤ 60 by decide), fm _ (show (0 : Int) ≤ 1000000 by decide), List.cons.injEq, and_true] at e
  unfold bad4 at h
  repeat' split at h
  all_goals omega
def wrongQ (a b c d : Int) (k : Int) : Bool := !decide (([a, b, c, d].getD k.toNat 0).fmod ([24, 60, 60, 1000000].getD k.toNat 0) = [a, b, c, d].getD k.toNat 0)
theorem wrong_head {a b c d : Int} (h : bad4 a b c d < 4) : ∃ r, (upto 4).filter (wrongQ a b c d) = ((bad4 a b c d : Nat) : Int) :: r := by
  have e : upto 4 = [0, 1, 2, 3] := rfl
  have q0 : wrongQ a b c d 0 = !decide (a % 24 = a) := by simp [wrongQ, fm]
  have q1 : wrongQ a b c d 1 = !decide (b % 60 = b) := by simp [wrongQ, fm]
  have q2 : wrongQ a b c d 2 = !decide (c % 60 = c) := by simp [wrongQ, fm]
  have q3 : wrongQ a b c d 3 = !decide (d % 1000000 = d) := by simp [wrongQ, fm]
  have e0 : (a % 24 = a) ↔ (0 ≤ a ∧ a ≤ 23) := by omega
  have e1 : (b % 60 = b) ↔ (0 ≤ b ∧ b ≤ 59) := by omega
  have e2 : (c % 60 = c) ↔ (0 ≤ c ∧ c ≤ 59) := by omega
  have e3 : (d % 1000000 = d) ↔ (0 ≤ d ∧ d ≤ 999999) := by omega
  simp only [e0] at q0
  simp only [e1] at q1
  simp only [e2] at q2
  simp only [e3] at q3
  rw [e]
  simp only [List.filter_cons, q0, q1, q2, q3]
  unfold bad4 at h ⊢
  by_cases h0 : 0 ≤ a ∧ a ≤ 23
  · by_cases h1 : 0 ≤ b ∧ b ≤ 59
    · by_cases h2 : 0 ≤ c ∧ c ≤ 59
      · by_cases h3 : 0 ≤ d ∧ d ≤ 999999
        · rw [if_neg (not_not_intro h0), if_neg (not_not_intro h1), if_neg (not_not_intro h2), if_neg (not_not_intro h3)] at h
          omega
        · rw [if_neg (not_not_intro h0), if_neg (not_not_intro h1), if_neg (not_not_intro h2), if_pos h3]
          simp only [h0, h1, h2, h3, decide_true, decide_false, Bool.not_true, Bool.not_false, if_true, and_self, Bool.false_eq_true, if_false]
          exact ⟨_, rfl⟩
      · rw [if_neg (not_not_intro h0), if_neg (not_not_intro h1), if_pos h2]
        simp only [h0, h1, h2, decide_true, decide_false, Bool.not_true, Bool.not_false, if_true, and_self, Bool.false_eq_true, if_false]
        exact ⟨_, rfl⟩
    · rw [if_neg (not_not_intro h0), if_pos h1]
      simp only [h0, h1, decide_true, decide_false, Bool.not_true, Bool.not_false, if_true, and_self, Bool.false_eq_true, if_false]
      exact ⟨_, rfl⟩
  · rw [if_pos h0]
    simp only [h0, decide_true, decide_false, Bool.not_true, Bool.not_false, if_true, and_self, Bool.false_eq_true, if_false]
    exact ⟨_, rfl⟩
end Mine
end
section
open PySem PySem.W PyProof.Rows PySem.Calls
set_option maxRecDepth 100000
namespace Mine
section
variable {prog : Program} {w : World} {A : Around} {E : Value → Shared → Prop} {s : Shared} {env : Env} {h₀ : Heap} {target : Expr} {body : List Stmt} {Q : Flow → Shared → Prop}
theorem subL_of : ∀ {l all : List (Addr × Obj)}, (∀ p ∈ l, p ∈ all) → SubL l all
  | [], _, _ => trivial
  | p :: _, _, h => ⟨h p (.head _), subL_of fun q hq => h q (.tail _ hq)⟩
theorem allObj_mono : ∀ {ws : List (Addr × String)} {k k' : List (Addr × Obj) → Prop}, (∀ its, Objs ws its → k its → k' its) → AllObj ws k → AllObj ws k'
  | [], _, _, f, h => f [] trivial h
  | _ :: _, _, _, f, h => fun o ho => allObj_mono (fun its hi => f _ ⟨⟨rfl, ho⟩, hi⟩) (h o ho)
theorem itemsRest_inv {ws : List (Addr × String)} {keep : List (Addr × Obj)} {xs : List Itm} (J : Nat → (Str → Option Value) → List (Addr × Obj) → Prop) (hk : ∀ i m nw, J i m nw → ∀ p ∈ keep, p ∈ nw)
    (turn : ∀ i a v m nw h tk, xs[i]? = some a → J i m nw → a.Is v h → Fr h₀ env.locals h m → AllObj ws (fun its => News h₀ env.locals h (its ++ nw) →
      wpAny (model prog w) A (assign target env v) (fun _ s₂ => wpAny (model prog w) A (execs body env) (UnrPostW h₀ env.locals { s with heap := h, toks := tk } its (J (i + 1)) Q) E s₂) E { s with heap := h, toks := tk }))
    (done : ∀ m nw h tk, J xs.length m nw → Fr h₀ env.locals h m → News h₀ env.locals h nw → Q .next { s with heap := h, toks := tk }) :
    ∀ k i m nw, i + k = xs.length → J i m nw → ItemsRest prog w A E h₀ env target body Q s ws keep (xs.drop i) m nw
  | 0, i, m, nw, e, hJ => by
    have e' : i = xs.length := by omega
    subst e'
    rw [List.drop_length]
    exact fun h tk F N => done m nw h tk hJ F N
  | k + 1, i, m, nw, e, hJ => by
    have hlt : i < xs.length := by omega
    rw [List.drop_eq_getElem_cons hlt]
    intro v h tk hv F
    refine allObj_mono (fun its _ g N => ?_) (turn i xs[i] v m nw h tk (List.getElem?_eq_getElem hlt) hJ hv F)
    refine wpAny_mono (g N) (fun _ s₂ q => wpAny_mono q (fun f s₃ p => ?_) fun _ _ e => e) fun _ _ e => e
    have fin : UnrEndW h₀ env.locals { s with heap := h, toks := tk } its (J (i + 1)) s₃ → UnrEndW h₀ env.locals { s with heap := h, toks := tk } its (fun m' n' => SubL keep n' ∧ ItemsRest prog w A E h₀ env target body Q s ws keep (xs.drop (i + 1)) m' n') s₃ := by
      rintro ⟨h', tk', m', news', e1, F', N', o, hj⟩
      exact ⟨h', tk', m', news', e1, F', N', o, subL_of (hk _ _ _ hj), itemsRest_inv J hk turn done k (i + 1) m' news' (by omega) hj⟩
    cases f with
    | ret v => exact p
    | brk => exact p
    | next => exact fin p
    | cont => exact fin p
theorem uEnd {L : Addr} {its : List (Addr × Obj)} {rest : (Str → Option Value) → List (Addr × Obj) → Prop} {s₁ : Shared} {h' : Heap} {tk : Nat} {m' : Str → Option Value} {all : List (Addr × Obj)} (news' : List (Addr × Obj)) (F : Fr h₀ L h' m') (N : News h₀ L h' all)
    (hI : ∀ p ∈ its, p ∈ all) (sub : ∀ p ∈ news', p ∈ all) (off : ∀ p ∈ news', ∀ q ∈ its, p.1 ≠ q.1) (r : rest m' news') : UnrEndW h₀ L s₁ its rest { s₁ with heap := h', toks := tk } :=
  ⟨h', tk, m', news', rfl, F, fun p hp => by
    rcases List.mem_append.mp hp with hp | hp
    · exact N p (hI p hp)
    · exact N p (sub p hp), off, r⟩

theorem assign_pair {xi xc : Str} {pk pv pt : Pos} {x1 : Nat} {T : Addr} {v0 v1 : Value} {h : Heap} {tk : Nat} {m : Str → Option Value} {news : List (Addr × Obj)} {Q' : Unit → Shared → Prop} (hh : A.handled = none) (hT : IsTup h T #[v0, v1]) (F : Fr h₀ env.locals h m) (N : News h₀ env.locals h news)
    (hxi : env.kindOf xi = some .local) (hxc : env.kindOf xc = some .local) (hp : (env.scope.kind == .class || (env.scope.kind == .module && env.locals != env.globals)) = false)
    (g : ∀ h' tk', Fr h₀ env.locals h' (fun y => if y = xc then some v1 else if y = xi then some v0 else m y) → News h₀ env.locals h' news → Q' () { s with heap := h', toks := tk' }) :
    wpAny (model prog w) A (assign (.Tuple [.Name xi pk, .Name xc pv] x1 pt) env (.ref T)) Q' E { s with heap := h, toks := tk } := by
  refine wpAny_assign_Tuple hh hT rfl rfl fun h₃ hx₃ => ?_
  replace hx₃ : Heap.ExtBut h.objs.size h h₃ := hx₃
  have up₃ : ∀ b o, h.get? b = some o → h₃.get? b = some o := fun b o x => hx₃ b o (Nat.ne_of_lt (Heap.lt_size x)) x
  have F₃ := F.keeps up₃
  have N₃ := N.grown up₃
  show wpAny _ A (do holding [v1] (assign (.Name xi pk) env v0); do holding [] (assign (.Name xc pv) env v1); pure ()) _ _ _
  refine wpAny_bind (wpAny_holding (wpAny_assign_Name (wpAny_storeName_local hxi F₃.ns (fun h₄ hn₄ hs₄ => ?_) hp)))
  replace hs₄ : Heap.SameBut env.locals h₃ h₄ := hs₄
  have F₄ := F₃.set hn₄ hs₄
  refine wpAny_bind (wpAny_holding (wpAny_assign_Name (wpAny_storeName_local hxc F₄.ns (fun h₅ hn₅ hs₅ => wpAny_pure ?_) hp)))
  replace hs₅ : Heap.SameBut env.locals h₄ h₅ := hs₅
  exact g h₅ _ (F₄.set hn₅ hs₅) ((N₃.set hs₄).set hs₅)

theorem j_enum {xi xc : Str} {pk pv pt : Pos} {x1 : Nat} {l : Addr} {items : Array Value} {c : Nat} {m₀ : Str → Option Value} {news : List (Addr × Obj)}
    (J : Nat → (Str → Option Value) → List (Addr × Obj) → Prop) (hh : A.handled = none) (hl : ∀ i m nw, J i m nw → (l, W.listOf items c) ∈ nw)
    (hxi : env.kindOf xi = some .local) (hxc : env.kindOf xc = some .local) (hp : (env.scope.kind == .class || (env.scope.kind == .module && env.locals != env.globals)) = false)
    (F : Fr h₀ env.locals s.heap m₀) (N : News h₀ env.locals s.heap news) (hj : J 0 m₀ news)
    (turn : ∀ i v t m nw h tk I oe oi, items[i]? = some v → J i m nw → (∀ p ∈ nw, p.1 ≠ I + 1 ∧ p.1 ≠ I) → Fr h₀ env.locals h (fun y => if y = xc then some v else if y = xi then some (.int (i : Int) t) else m y) → News h₀ env.locals h ((I + 1, oe) :: (I, oi) :: nw) →
      wpAny (model prog w) A (execs body env) (UnrPostW h₀ env.locals { s with heap := h, toks := tk } [(I + 1, oe), (I, oi)] (J (i + 1)) Q) E { s with heap := h, toks := tk })
    (done : ∀ m nw h tk, J items.size m nw → Fr h₀ env.locals h m → News h₀ env.locals h nw → Q .next { s with heap := h, toks := tk }) :
    wpAny (model prog w) A (call (.type "enumerate") [.ref l]) (fun xv s₁ => wpAny (model prog w) A (pyIter xv) (fun it s₂ => TurnsAt prog w A h₀ env (.Tuple [.Name xi pk, .Name xc pv] x1 pt) body Q E it s₂) E s₁) E s := by
  refine ktu_enum (vs := items.toList) (n := c) hh F N (hl _ _ _ hj) rfl (by simp) rfl fun I hI => ?_
  have q := itemsRest_inv (s := s) (E := E) (Q := Q) (env := env) (h₀ := h₀) (target := .Tuple [.Name xi pk, .Name xc pv] x1 pt) (body := body) (prog := prog) (w := w) (A := A) (ws := [(I + 1, "enumerate"), (I, "list_iterator")]) (keep := [(l, W.listOf items c)]) (xs := enumItems 0 items.toList)
    (fun i m nw => J i m nw ∧ ∀ p ∈ nw, p.1 ≠ I + 1 ∧ p.1 ≠ I) (fun i m nw q p hp => by rw [List.mem_singleton.mp hp]; exact hl _ _ _ q.1) ?_ ?_ (enumItems 0 items.toList).length 0 m₀ news (Nat.zero_add _) ⟨hj, fun p hp => ?_⟩
  · simpa using q
  · rintro i a v m nw h tk ha ⟨hJ, hoff⟩ hv F₁ oe hoe oi hoi N₁
    have hlt : i < items.size := by
      have := (List.getElem?_eq_some_iff.mp ha).1
      simpa [enumItems_length] using this
    have hit : items.toList[i]? = some items[i] := by simp [hlt]
    have e := enumItems_get items.toList 0 i hit
    rw [ha] at e
    injection e with e
    subst e
    obtain ⟨T, t, rfl, hT⟩ := hv
    rw [Nat.zero_add] at hT
    refine assign_pair hh hT F₁ N₁ hxi hxc hp fun h' tk₂ F₂ N₂ => ?_
    refine wpAny_mono (turn i items[i] t m nw h' tk₂ I oe oi (by simp [hlt]) hJ hoff F₂ N₂) (fun f s₃ p => ?_) fun _ _ e => e
    have fin : UnrEndW h₀ env.locals { s with heap := h', toks := tk₂ } [(I + 1, oe), (I, oi)] (J (i + 1)) s₃ → UnrEndW h₀ env.locals { s with heap := h, toks := tk } [(I + 1, oe), (I, oi)] (fun m nw => J (i + 1) m nw ∧ ∀ p ∈ nw, p.1 ≠ I + 1 ∧ p.1 ≠ I) s₃ := by
      rintro ⟨h', tk', m', news', e1, F', N', o, hj⟩
      exact ⟨h', tk', m', news', e1, F', N', o, hj, fun p hp => ⟨o p hp _ (.head _), o p hp _ (.tail _ (.head _))⟩⟩
    cases f with
    | ret v => exact p
    | brk => exact p
    | next => exact fin p
    | cont => exact fin p
  · rintro m nw h tk ⟨hJ, _⟩ F₁ N₁
    rw [enumItems_length, Array.length_toList] at hJ
    exact done m nw h tk hJ F₁ N₁
  · have := hI p hp
    constructor
    · intro e; rw [e] at this; exact absurd this (Nat.not_lt.mpr (Nat.le_succ _))
    · intro e; rw [e] at this; exact Nat.lt_irrefl _ this

theorem j_zip {xi xc : Str} {pk pv pt : Pos} {x1 : Nat} {l1 l2 : Addr} {its1 its2 : Array Value} {c1 c2 : Nat} {m₀ : Str → Option Value} {news : List (Addr × Obj)}
    (J : Nat → (Str → Option Value) → List (Addr × Obj) → Prop) (hh : A.handled = none) (hl1 : ∀ i m nw, J i m nw → (l1, W.listOf its1 c1) ∈ nw) (hl2 : ∀ i m nw, J i m nw → (l2, W.listOf its2 c2) ∈ nw)
    (hxi : env.kindOf xi = some .local) (hxc : env.kindOf xc = some .local) (hp : (env.scope.kind == .class || (env.scope.kind == .module && env.locals != env.globals)) = false)
    (F : Fr h₀ env.locals s.heap m₀) (N : News h₀ env.locals s.heap news) (hj : J 0 m₀ news)
    (turn : ∀ i u v m nw h tk I its, its1[i]? = some u → its2[i]? = some v → J i m nw → (∀ p ∈ nw, ∀ q ∈ its, p.1 ≠ q.1) → its.map (·.1) = [I + 4, I + 2, I + 3, I, I + 1] → Fr h₀ env.locals h (fun y => if y = xc then some v else if y = xi then some u else m y) → News h₀ env.locals h (its ++ nw) →
      wpAny (model prog w) A (execs body env) (UnrPostW h₀ env.locals { s with heap := h, toks := tk } its (J (i + 1)) Q) E { s with heap := h, toks := tk })
    (done : ∀ m nw h tk, J (min its1.size its2.size) m nw → Fr h₀ env.locals h m → News h₀ env.locals h nw → Q .next { s with heap := h, toks := tk }) :
    wpAny (model prog w) A (call (.type "zip") [.ref l1, .ref l2]) (fun xv s₁ => wpAny (model prog w) A (pyIter xv) (fun it s₂ => TurnsAt prog w A h₀ env (.Tuple [.Name xi pk, .Name xc pv] x1 pt) body Q E it s₂) E s₁) E s := by
  refine ktu_zip (xs := its1.toList) (ys := its2.toList) (n1 := c1) (n2 := c2) hh F N (hl1 _ _ _ hj) rfl (by simp) (hl2 _ _ _ hj) rfl (by simp) fun I hI => ?_
  have q := itemsRest_inv (s := s) (E := E) (Q := Q) (env := env) (h₀ := h₀) (target := .Tuple [.Name xi pk, .Name xc pv] x1 pt) (body := body) (prog := prog) (w := w) (A := A) (ws := [(I + 4, "zip"), (I + 2, "tuple"), (I + 3, "tuple"), (I, "list_iterator"), (I + 1, "list_iterator")]) (keep := [(l1, W.listOf its1 c1), (l2, W.listOf its2 c2)]) (xs := zipItems its1.toList its2.toList)
    (fun i m nw => J i m nw ∧ ∀ p ∈ nw, p.1 ∉ [I + 4, I + 2, I + 3, I, I + 1]) (fun i m nw q p hp => ?_) ?_ ?_ (zipItems its1.toList its2.toList).length 0 m₀ news (Nat.zero_add _) ⟨hj, fun p hp => ?_⟩
  · simpa using q
  · rcases List.mem_cons.mp hp with rfl | hp
    · exact hl1 _ _ _ q.1
    · rw [List.mem_singleton.mp hp]; exact hl2 _ _ _ q.1
  · rintro i a v m nw h tk ha ⟨hJ, hoff⟩ hv F₁
    have hlt : i < min its1.size its2.size := by
      have := (List.getElem?_eq_some_iff.mp ha).1
      simpa [zipItems_length] using this
    have h1 : i < its1.size := by omega
    have h2 : i < its2.size := by omega
    have e := zipItems_get its1.toList its2.toList i (x := its1[i]) (y := its2[i]) (by simp [h1]) (by simp [h2])
    rw [ha] at e
    injection e with e
    subst e
    obtain ⟨T, t, rfl, hT⟩ := hv
    refine allObj_mono (k := fun _ => True) (fun its hits _ N₁ => ?_) (fun _ _ _ _ _ _ _ _ _ _ => trivial)
    have hmap := hits.map
    have hoff' : ∀ p ∈ nw, ∀ q ∈ its, p.1 ≠ q.1 := fun p hp q hq e => hoff p hp (by
      have hm : q.1 ∈ its.map (·.1) := List.mem_map.mpr ⟨q, hq, rfl⟩
      rw [hmap] at hm
      exact e ▸ hm)
    refine assign_pair hh hT F₁ N₁ hxi hxc hp fun h' tk₂ F₂ N₂ => ?_
    refine wpAny_mono (turn i its1[i] its2[i] m nw h' tk₂ I its (by simp [h1]) (by simp [h2]) hJ hoff' hmap F₂ N₂) (fun f s₃ p => ?_) fun _ _ e => e
    have fin : UnrEndW h₀ env.locals { s with heap := h', toks := tk₂ } its (J (i + 1)) s₃ → UnrEndW h₀ env.locals { s with heap := h, toks := tk } its (fun m nw => J (i + 1) m nw ∧ ∀ p ∈ nw, p.1 ∉ [I + 4, I + 2, I + 3, I, I + 1]) s₃ := by
      rintro ⟨h', tk', m', news', e1, F', N', o, hj⟩
      refine ⟨h', tk', m', news', e1, F', N', o, hj, fun p hp hq => ?_⟩
      have hq' : p.1 ∈ its.map (·.1) := by rw [hmap]; exact hq
      obtain ⟨q, hq1, hq2⟩ := List.mem_map.mp hq'
      exact o p hp q hq1 hq2.symm
    cases f with
    | ret v => exact p
    | brk => exact p
    | next => exact fin p
    | cont => exact fin p
  · rintro m nw h tk ⟨hJ, _⟩ F₁ N₁
    rw [zipItems_length, Array.length_toList, Array.length_toList] at hJ
    exact done m nw h tk hJ F₁ N₁
  · have hlt := hI p hp
    intro hq
    have hq' : p.1 = I + 4 ∨ p.1 = I + 2 ∨ p.1 = I + 3 ∨ p.1 = I ∨ p.1 = I + 1 := by simpa using hq
    have hlt' : @LT.lt Nat _ p.1 I := hlt
    rcases hq' with e | e | e | e | e <;> (rw [e] at hlt'; exact absurd hlt' (by first | exact Nat.lt_irrefl _ | exact Nat.not_lt.mpr (Nat.le_add_right _ _)))
end
end Mine
end
section
open PySem PySem.W PyProof.Rows PySem.Calls LCg
set_option maxRecDepth 100000
set_option pp.maxSteps 400
set_option maxHeartbeats 8000000
set_option rowWalk.seconds 0
namespace Mine
local macro_rules | `(tactic| k_room) => `(tactic| ((try simp only [depth_under_make, depth_under_kw, depth_in1, depth_deeper, depth_caller]); first | decide | omega | (simp only [recursionLimit] at *; omega)))
local macro_rules | `(tactic| walk_at "my stop") => `(tactic| ((fail_if_success (with_reducible show wpAny _ _ (pyIter _) (fun it s₂ => LoopAtV _ _ _ _ _ _ _ _ _ it s₂) _ _)); (fail_if_success (with_reducible show wpAny _ _ (call (Value.ref _) _ _) _ _ _)); (fail_if_success (with_reducible show wpAny _ _ (eval (Expr.ListComp _ _ _ _) _) _ _ _)); (fail_if_success (with_reducible show wpAny _ _ (noteFrame _ _) _ _ _)); (fail_if_success (with_reducible show wpAny _ _ (binaryOp Operator.Add (Value.ref _) (Value.ref _)) _ _ _)); skip))
local macro_rules | `(tactic| k_steps) => `(tactic| repeat' (first | (k_unfold; (try dsimp only)) | (k_end; wrow_close) | (walk_at "my stop"; walk1) | (walk_at "my stop"; dsimp only; walk1) | (leave1; walk_say "STEP leave1"; try dsimp only) | fail "no step"))
local macro_rules | `(tactic| walk_at "mem tail") => `(tactic| (intro p hp; repeat (first | exact hp | refine List.Mem.tail _ ?_)))
local macro_rules | `(tactic| walk_at "mem all") => `(tactic| repeat' (first | exact List.forall_mem_nil _ | (refine List.forall_mem_cons.mpr ⟨?_, ?_⟩) | k_mem | walk_at "mem tail"))
local macro_rules | `(tactic| walk_at "off all") => `(tactic| repeat' (first | exact List.forall_mem_nil _ | (refine List.forall_mem_cons.mpr ⟨?_, ?_⟩) | k_ne))
local macro_rules | `(tactic| k_all) => `(tactic| first | assumption | (refine List.forall_mem_cons.mpr ⟨?_, ?_⟩; k_ne; assumption) | (refine List.forall_mem_cons.mpr ⟨?_, List.forall_mem_cons.mpr ⟨?_, ?_⟩⟩; k_ne; k_ne; assumption) | (refine List.forall_mem_cons.mpr ⟨?_, List.forall_mem_cons.mpr ⟨?_, List.forall_mem_cons.mpr ⟨?_, ?_⟩⟩⟩; k_ne; k_ne; k_ne; assumption))
local macro_rules | `(tactic| walk_at "binaryOp Mult int int") => `(tactic| ((with_reducible refine mul_int ?_ (by first | exact PySem.IntMulOk.of_right (PySem.intBits_le_64 (by omega) (by omega)) | exact PySem.IntMulOk.of_left (PySem.intBits_le_64 (by omega) (by omega)))); (try dsimp only)))
local macro_rules | `(tactic| walk_at "exec Try") => `(tactic| (refine wpAny_Try_except ?_))
local macro_rules | `(tactic| walk_at "call builtin:len") => `(tactic| (k_here; (rename Got _ _ _ _ _ => gX); (with_reducible show wpAny _ _ (call (Value.builtin "len") [Value.ref _]) _ _ _); (refine' len_got2 ?k1 ?k2 ?_; (case k1 => k_asm); (case k2 => got_up))))
local macro_rules | `(tactic| walk_at "call builtin:list.index") => `(tactic| (k_here; (first
  | (refine' index_list_strs 0 ?k1 ?k2 ?k3 ?k4 ?k5 ?_; (case k1 => is_list); (case k2 => exact .cons _ _ (.cons _ _ (.cons _ _ (.cons _ _ (.cons _ _ .nil))))); (case k3 => exact Nat.le_of_ble_eq_true rfl); (case k4 => exact rfl); (case k5 => exact rfl))
  | (refine' index_list_strs 1 ?k1 ?k2 ?k3 ?k4 ?k5 ?_; (case k1 => is_list); (case k2 => exact .cons _ _ (.cons _ _ (.cons _ _ (.cons _ _ (.cons _ _ .nil))))); (case k3 => exact Nat.le_of_ble_eq_true rfl); (case k4 => exact rfl); (case k5 => exact rfl))
  | (refine' index_list_strs 2 ?k1 ?k2 ?k3 ?k4 ?k5 ?_; (case k1 => is_list); (case k2 => exact .cons _ _ (.cons _ _ (.cons _ _ (.cons _ _ (.cons _ _ .nil))))); (case k3 => exact Nat.le_of_ble_eq_true rfl); (case k4 => exact rfl); (case k5 => exact rfl))
  | (refine' index_list_strs 3 ?k1 ?k2 ?k3 ?k4 ?k5 ?_; (case k1 => is_list); (case k2 => exact .cons _ _ (.cons _ _ (.cons _ _ (.cons _ _ (.cons _ _ .nil))))); (case k3 => exact Nat.le_of_ble_eq_true rfl); (case k4 => exact rfl); (case k5 => exact rfl))
  | (refine' index_list_strs 4 ?k1 ?k2 ?k3 ?k4 ?k5 ?_; (case k1 => is_list); (case k2 => exact .cons _ _ (.cons _ _ (.cons _ _ (.cons _ _ (.cons _ _ .nil))))); (case k3 => exact Nat.le_of_ble_eq_true rfl); (case k4 => exact rfl); (case k5 => exact rfl)))))
local macro_rules | `(tactic| walk_at "subscriptTail Attribute Name Constant ref int") => `(tactic| (k_here; (rename Got _ _ _ _ _ => gX); refine item_tupleT (Got.isTup (by assumption) (by got_up)) (by omega) (by omega) (by rfl) (by rfl) ?_))
local macro_rules | `(tactic| walk_at "units") => `(tactic| ((try simp only [units_deeper, units_in1, units_caller, cLine_is]); first | decide | (simp only [cLine_is] at *; omega)))
local macro_rules | `(tactic| walk_at "exec Assign cons ListComp") => `(tactic| refine wpAny_Assign_Name ?_)
theorem len4v {ys : List Value} (h : ys.length = 4) : ∃ a b c d, ys = [a, b, c, d] := by
  rcases ys with _ | ⟨a, _ | ⟨b, _ | ⟨c, _ | ⟨d, _ | ⟨e, r⟩⟩⟩⟩⟩ <;> simp only [List.length_cons, List.length_nil] at h <;> first | omega | exact ⟨_, _, _, _, rfl⟩
theorem map_butX {y : Str} {v : Option Value} {ys : List Str} {m m₀ : Str → Option Value} (h1 : m y = v) (h : ∀ z, z ∉ ys → m z = m₀ z) : m = fun z => if z = y then v else if z ∈ ys then m z else m₀ z := by
  funext z; by_cases hy : z = y
  · simp only [if_pos hy]; rw [hy]; exact h1
  · by_cases hz : z ∈ ys
    · simp only [if_neg hy, if_pos hz]
    · simp only [if_neg hy, if_neg hz]; exact h z hz
local macro_rules | `(tactic| walk_at "exec For Name Subscript cons nil") => `(tactic| (k_here; (rename Fr _ _ _ _ => lF'); (with_unfolding_all refine' For_turns lF' ?_)))
theorem if_q {a b c d : Int} (h : (((((cntI a b c d 4).fdiv 1000000).fdiv 60).fdiv 60).fdiv 24) ≠ 0) : true = decide (bad4 a b c d < 4) := (decide_eq_true (Classical.byContradiction fun hb => h (cnt_good hb).1)).symm
theorem if_e {a b c d n : Int} (h : digI n = [a, b, c, d]) : false = decide (bad4 a b c d < 4) := (decide_eq_false fun hb => cnt_bad hb h).symm
theorem if_n {a b c d : Int} (h : ¬ digI (cntI a b c d 4) = [a, b, c, d]) : true = decide (bad4 a b c d < 4) := (decide_eq_true (Classical.byContradiction fun hb => h (cnt_good hb).2)).symm
theorem if_by {prog : Program} {w : World} {A : Around} {E : Value → Shared → Prop} {s : Shared} {h₀ : Heap} {L : Addr} {m : Str → Option Value} {led : List (Addr × Obj)} {env : Env} {ct : Expr} {body orelse : List Stmt} {pos : Pos} {Q : Flow → Shared → Prop}
    (_F : Fr h₀ L s.heap m) (_N : News h₀ L s.heap led) (b : Bool) (ht : wpAny (model prog w) A (isTrue ct env (eval ct env)) (TestIs h₀ L m s led b) E s)
    (k : ∀ h' tk, Fr h₀ L h' m → News h₀ L h' led → (if b = true then wpAny (model prog w) A (execs body env) Q E { s with heap := h', toks := tk } else wpAny (model prog w) A (execs orelse env) Q E { s with heap := h', toks := tk })) :
    wpAny (model prog w) A (exec (.If ct body orelse pos) env) Q E s := by
  refine wpAny_If (wpAny_mono ht (fun ok s' q => ?_) fun _ _ e => e)
  obtain ⟨rfl, h', tk', rfl, F', N'⟩ := q
  exact k h' tk' F' N'
theorem add0_IB {prog : Program} {w : World} {A : Around} {E : Value → Shared → Prop} {s : Shared} {v : Value} {n : Int} {t : Tok} {Q : Value → Shared → Prop} (i : IB v n) (h : ∀ t tk, Q (.int n t) { s with toks := tk }) : wpAny (model prog w) A (binaryOp .Add (.int 0 t) v) Q E s := by
  cases i with
  | int n t => refine add_int ?_; rw [Int.zero_add]; exact h _ _
  | bool b => refine PySem.add_int_bool ?_; rw [Int.zero_add]; exact h _ _
local macro_rules | `(tactic| walk_at "binaryOp Add int") => `(tactic| (refine add0_IB (by assumption) ?_; intro tX tkX))
section
variable {w : World} {A A₀ : Around} {E : Value → Shared → Prop} {s : Shared} {L : Addr} {h₀ base : Heap} {m mg mb : Str → Option Value} {news : List (Addr × Obj)} {p : Program} {loose : List Str} {mean : ExcName → Option Value} {Q : Value → Shared → Prop} {env : Env} {outer : List Env} {cn : Str} {cs : Scope} {a₀ : Addr} {ccd : Value}
theorem due (B : Below A₀ base outer h₀) (F : Fr h₀ L s.heap m) (X : (hd.heap_39 w.params).In h₀) (N : News h₀ L s.heap news) (T : Top p loose mean mg mb h₀) (hA : A.frames = some (env :: outer)) (hf : env.frame = some L) (hke : env.scope.kind = .function)
  (hroom : A.depth + 20 < recursionLimit) (hh : A.handled = none) (hu : A.units + 80 < cLine) {lf : Addr} {cf : Nat} {v1 v2 v3 v4 v5 : Value} {a b c d : Int} {kd : Str} {b5 : Bool}
  (hm : (lf, W.listOf #[v1, v2, v3, v4, v5] cf) ∈ news) (i1 : IB v1 a) (i2 : IB v2 b) (i3 : IB v3 c) (i4 : IB v4 d) (K : Fold news v5 kd b5)
  (hok : ∀ h' tk R nw', Fr h₀ L h' m → News h₀ L h' nw' → (∀ p ∈ news, p ∈ nw') → OutIs nw' R (outOf a b c d kd b5 v5).1 (outOf a b c d kd b5 v5).2 → Q (.ref R) { s with heap := h', toks := tk }) :
  wpAny (model PySem.Challenge.rw_km0086_03.row.prog w) A (call (.ref 56) [.ref lf, .bool b5]) Q E s := by
  w_top off
  refine wpAny_call ?_
  refine' code_defC B F X N T hA hf hke ?k6 ?k7 ?k8 ?k9 ?kB ?kD ?_ ?c2 ?c3 ?c4
  case k6 => k_is
  case k7 => k_is
  case k8 => k_room
  case k9 => exact BindsTo.of_eq rfl
  case kB => exact rfl
  case kD => decide +kernel
  case c2 => exact rfl
  case c3 => exact rfl
  case c4 => exact rfl
  intro g' L' h' tk' cells' FG' F' N' Y' B' X' T' l1
  k_cells Y'
  simp only [List.cons_append, List.nil_append] at N'
  have N1 := news_cons N' (.tail _ (.tail _ hm))
  have hlt' := news_lt N1
  simp only [AllLt] at hlt'
  have hl0 := allLt_of l1
  have hlf : @LT.lt Nat _ lf L' := l1 _ hm
  have hlfA : @Ne Nat lf (L' + 1) := by omega
  have hlfB : @Ne Nat lf (L' + 1 + 1) := by omega
  have hnA : ∀ p ∈ news, p.1 ≠ L' + 1 := fun p hp => Nat.ne_of_lt (Nat.lt_succ_of_lt (l1 p hp))
  have hnB : ∀ p ∈ news, p.1 ≠ L' + 1 + 1 := fun p hp => Nat.ne_of_lt (Nat.lt_succ_of_lt (Nat.lt_succ_of_lt (l1 p hp)))
  (try dsimp only)
  k_steps
  (with_reducible rename Fr g' _ _ _ => FL)
  (with_reducible rename News g' _ _ _ => NL)
  refine ListComp_listJ FL (by with_unfolding_all rfl) (by decide) (by with_unfolding_all rfl) (by decide) (by with_unfolding_all rfl) (by intro _; with_unfolding_all rfl) ?_
  k_steps
  (with_reducible rename Fr g' _ _ _ => FW)
  (with_reducible rename News g' _ _ _ => NW)
  refine nmN NW ?_
  intro nwb enb
  rw [← enb] at NW
  refine ⟨fun i ys nw => nw = nwb ∧ IntsAre ys ([a, b, c, d].take i), _, #[v1, v2, v3, v4], _, nwb, rfl, hh, FW, NW, Nat.le_of_ble_eq_true rfl, ⟨rfl, .nil⟩, fun i ys nw q => by rw [q.1, enb]; exact .head _, ?_, ?_⟩
  · rintro i v ys nw I oI C oC D m₂ h tk E' hv ⟨rfl, hO⟩ hC hm2 FC NC off dist
    obtain ⟨z, hz, iv⟩ : ∃ z, [a, b, c, d][i]? = some z ∧ IB v z := by
      have hi : i = 0 ∨ i = 1 ∨ i = 2 ∨ i = 3 := by
        have := (Array.getElem?_eq_some_iff.mp hv).1
        simp at this
        omega
      rcases hi with rfl | rfl | rfl | rfl
      · obtain rfl : v1 = v := by simpa using hv
        exact ⟨_, rfl, i1⟩
      · obtain rfl : v2 = v := by simpa using hv
        exact ⟨_, rfl, i2⟩
      · obtain rfl : v3 = v := by simpa using hv
        exact ⟨_, rfl, i3⟩
      · obtain rfl : v4 = v := by simpa using hv
        exact ⟨_, rfl, i4⟩
    have hlt2 := news_lt NC
    simp only [AllLt] at hlt2
    clear FW NW i1 i2 i3 i4
    k_steps
    (with_reducible rename Fr g' _ _ _ => FT)
    (with_reducible rename News g' _ _ _ => NT)
    refine CompEnd.intro FT NT nw (by walk_at "mem all") off trivial ⟨rfl, ?_⟩
    rw [List.take_add_one, hz]
    exact hO.append (.cons _ _ .nil)
  · rintro D6 h6 tk6 ys nw F6 N6 o6 ⟨rfl, hO⟩
    obtain ⟨w1, w2, w3, w4, rfl⟩ : ∃ w1 w2 w3 w4, ys = [.int a w1, .int b w2, .int c w3, .int d w4] := by
      cases hO with | cons _ w1 hO => cases hO with | cons _ w2 hO => cases hO with | cons _ w3 hO => cases hO with | cons _ w4 hO => cases hO with | nil => exact ⟨_, _, _, _, rfl⟩
    subst enb
    simp only [LCg.Off1] at o6
    clear FW NW hO
    have hlt3 := news_lt N6
    simp only [AllLt] at hlt3
    k_steps
    rename IsRange _ _ _ _ _ _ _ _ => R1
    rename News _ _ _ _ => N1
    rename Fr _ _ _ _ => F1
    refine nmF F1 ?_
    intro m₀ em
    refine nmN N1 ?_
    intro nw0 en
    have hcz : ∃ t, m₀ ("count" : Str) = some (.int (cntI a b c d 0) t) := ⟨_, by rw [em]; rfl⟩
    rw [← en] at N1
    rw [← em] at F1
    refine j_range 4 (fun i m nw => nw = nw0 ∧ (∀ z, z ∉ (["k", "count"] : List Str) → m z = m₀ z) ∧ ∃ t, m ("count" : Str) = some (.int (cntI a b c d i) t)) hh R1 (by decide +kernel) (by decide +kernel) F1 N1 ⟨rfl, fun _ _ => rfl, hcz⟩ ?_ ?_
    · rintro i t m₁ nw h tk I oI hi ⟨rfl, hm1, tc, hc1⟩ hoff F3 N3
      have em₁ := map_butX hc1 hm1
      rw [em₁] at F3
      clear em₁ hc1 hm1
      subst en em
      have hoff2 := allNe_of hoff
      simp only [AllNe] at hoff2
      have hlt' := news_lt N3
      simp only [AllLt] at hlt'
      clear N1 F1 R1 hcz
      have hi' : i = 0 ∨ i = 1 ∨ i = 2 ∨ i = 3 := by omega
      rcases hi' with rfl | rfl | rfl | rfl
      all_goals (
        k_steps
        (with_reducible rename Fr _ _ _ _ => FE)
        (with_reducible rename News _ _ _ _ => NE)
        dsimp only [JPost]
        refine' JEnd.intro _ FE NE (.head _) ?hn hoff ⟨rfl, ?h1, ?h2⟩
        case hn => exact fun p hp => .tail _ hp
        case h2 => exact ⟨_, rfl⟩
        case h1 =>
          intro z hz
          simp only [List.mem_cons, List.not_mem_nil, or_false, not_or] at hz
          simp only [hz.1, hz.2, if_false, List.mem_cons, List.not_mem_nil, or_false]
          try rfl)
    · rintro m' nw h tk ⟨rfl, hm1, tc, hc1⟩ F3 N3
      have em₁ := map_butX hc1 hm1
      rw [em₁] at F3
      clear em₁ hc1 hm1
      subst en em
      have hlt' := news_lt N3
      simp only [AllLt] at hlt'
      clear N1 F1 R1 hcz
      (try dsimp only)
      k_steps
      (with_reducible rename Fr _ _ _ _ => FQ)
      (with_reducible rename News _ _ _ _ => NQ)
      refine iter_listTurns (vs := [_, _, _, _]) hh FQ NQ (.head _) rfl rfl (fun IQ hIQ => ?_)
      have hIQ8 : ∀ p ∈ news, p.1 ≠ IQ := fun p hp => Nat.ne_of_lt (hIQ p (.tail _ (.tail _ (.tail _ (.tail _ (.tail _ (.tail _ (.tail _ (.tail _ (.tail _ hp))))))))))
      have hIQ' := allLt_of hIQ
      simp only [AllLt] at hIQ'
      clear hIQ
      refine ItemsRest.val (fun hQ tkQ FQ => ?_)
      refine AllObj.cons (fun oQ hcQ => AllObj.nil (fun NQ => ?_))
      simp only [List.cons_append, List.nil_append] at NQ
      dsimp only at hcQ
      k_steps
      (with_reducible rename Fr _ _ _ _ => FQ)
      (with_reducible rename News _ _ _ _ => NQ)
      try dsimp only [UnrPostW]
      refine nmT NQ ?_
      intro tl etl
      rw [← etl] at NQ
      refine uEnd tl FQ NQ (by walk_at "mem all") (fun p hp => .tail _ hp) (fun p hp q hq => by rw [List.mem_singleton.mp hq]; revert p hp; subst etl; walk_at "off all"; exact hIQ8) ⟨subL_of (by subst etl; walk_at "mem all"), ?_⟩
      subst etl
      refine ItemsRest.val (fun hQ tkQ FQ => ?_)
      refine AllObj.cons (fun oQ hcQ => AllObj.nil (fun NQ => ?_))
      simp only [List.cons_append, List.nil_append] at NQ
      dsimp only at hcQ
      k_steps
      (with_reducible rename Fr _ _ _ _ => FQ)
      (with_reducible rename News _ _ _ _ => NQ)
      try dsimp only [UnrPostW]
      refine nmT NQ ?_
      intro tl etl
      rw [← etl] at NQ
      refine uEnd tl FQ NQ (by walk_at "mem all") (fun p hp => .tail _ hp) (fun p hp q hq => by rw [List.mem_singleton.mp hq]; revert p hp; subst etl; walk_at "off all"; exact hIQ8) ⟨subL_of (by subst etl; walk_at "mem all"), ?_⟩
      subst etl
      refine ItemsRest.val (fun hQ tkQ FQ => ?_)
      refine AllObj.cons (fun oQ hcQ => AllObj.nil (fun NQ => ?_))
      simp only [List.cons_append, List.nil_append] at NQ
      dsimp only at hcQ
      k_steps
      (with_reducible rename Fr _ _ _ _ => FQ)
      (with_reducible rename News _ _ _ _ => NQ)
      try dsimp only [UnrPostW]
      refine nmT NQ ?_
      intro tl etl
      rw [← etl] at NQ
      refine uEnd tl FQ NQ (by walk_at "mem all") (fun p hp => .tail _ hp) (fun p hp q hq => by rw [List.mem_singleton.mp hq]; revert p hp; subst etl; walk_at "off all"; exact hIQ8) ⟨subL_of (by subst etl; walk_at "mem all"), ?_⟩
      subst etl
      refine ItemsRest.val (fun hQ tkQ FQ => ?_)
      refine AllObj.cons (fun oQ hcQ => AllObj.nil (fun NQ => ?_))
      simp only [List.cons_append, List.nil_append] at NQ
      dsimp only at hcQ
      k_steps
      (with_reducible rename Fr _ _ _ _ => FQ)
      (with_reducible rename News _ _ _ _ => NQ)
      try dsimp only [UnrPostW]
      refine nmT NQ ?_
      intro tl etl
      rw [← etl] at NQ
      refine uEnd tl FQ NQ (by walk_at "mem all") (fun p hp => .tail _ hp) (fun p hp q hq => by rw [List.mem_singleton.mp hq]; revert p hp; subst etl; walk_at "off all"; exact hIQ8) ⟨subL_of (by subst etl; walk_at "mem all"), ?_⟩
      subst etl
      refine ItemsRest.zero (fun hQ tkQ FQ NQ => ?_)
      dsimp only
      clear hIQ' hIQ8
      refine wpAny_execs_cons ?_
      refine if_by FQ NQ (decide (bad4 a b c d < 4)) ?_ fun hI tkI FI NI => ?_
      · k_steps
        all_goals (first | ((fail_if_success (with_reducible show wpAny _ _ (compareOp CmpOp.NotEq _ _) _ _ _)); skip) | (
          refine' ke_ne_ints (xs := [_, _, _, _]) (ys := [_, _, _, _]) ?k1 ?k2 ?k3 ?k4 ?k5 ?_
          case k1 => is_list
          case k2 => is_list
          case k3 => exact .cons _ _ (.cons _ _ (.cons _ _ (.cons _ _ .nil)))
          case k4 => exact .cons _ _ (.cons _ _ (.cons _ _ (.cons _ _ .nil)))
          case k5 => walk_at "units"
          k_steps))
        all_goals (
          (with_reducible rename Fr g' _ _ _ => FT)
          (with_reducible rename News g' _ _ _ => NT)
          refine TestIs.intro ?_ FT NT (fun p hp => hp)
          first | exact if_q (by assumption) | exact if_e (by assumption) | exact if_n (by assumption))
      · by_cases hb : bad4 a b c d < 4
        · rw [decide_eq_true hb, if_pos rfl]
          obtain ⟨r, hr⟩ := wrong_head hb
          refine wpAny_execs_cons ?_
          refine LCt.Assign_ListComp_T FI rfl (by with_unfolding_all rfl) (by with_unfolding_all rfl) (by decide) (by with_unfolding_all rfl) (by decide) (by with_unfolding_all rfl) (by with_unfolding_all rfl) (by with_unfolding_all rfl) ?_ (by intro _; with_unfolding_all rfl)
          k_steps
          rename IsRange _ _ _ _ _ _ _ _ => R2
          (with_reducible rename Fr g' _ _ _ => FY)
          (with_reducible rename News g' _ _ _ => NY)
          refine LCt.CompSrcT.range hh FY NY R2 (by decide +kernel) (by decide +kernel) (Nat.le_of_ble_eq_true rfl) (fun gY => compRestT_range (n := 4) (wrongQ a b c d) ?_ (by with_unfolding_all rfl) (by with_unfolding_all rfl) (by decide) ?_ 4 0 [] rfl .nil)
          · intro ys hys D7 h7 tk7 F7 N7 o7
            rw [hr] at hys
            dsimp only
            clear FY NY R2 hr
            have hk : bad4 a b c d = 0 ∨ bad4 a b c d = 1 ∨ bad4 a b c d = 2 ∨ bad4 a b c d = 3 := by omega
            clear hb
            rcases hk with hk | hk | hk | hk
            all_goals (
              rw [hk] at hys
              k_steps
              try simp only [Int.toNat_zero, List.getD_cons_zero]
              k_steps
              try simp only [Int.toNat_zero, List.getD_cons_zero]
              k_steps
              (with_reducible rename Fr h₀ L _ m => FE)
              (with_reducible rename News h₀ L _ _ => NE)
              refine hok _ _ _ _ FE NE (by walk_at "mem tail") ?_
              rw [show outOf a b c d kd b5 v5 = (("ValueError" : Str), _) by simp only [outOf, hk]; rfl]
              exact ⟨_, _, _, _, rfl, .head _, .cons (by k_mem) ⟨_, rfl⟩ (.cons (by k_mem) ⟨_, rfl⟩ .nil)⟩)
          · intro i t ys I oI C oC D m₂ h tk E' hi hC hm FC NC
            clear FY NY R2 hr hb
            have hi' : i = 0 ∨ i = 1 ∨ i = 2 ∨ i = 3 := by omega
            rcases hi' with rfl | rfl | rfl | rfl
            all_goals (
              k_steps
              (with_reducible rename Fr g' _ _ _ => FT)
              (with_reducible rename News g' _ _ _ => NT)
              refine TestIs.intro ?_ FT NT (by walk_at "mem all")
              rfl)
        · rw [decide_eq_false hb, if_neg (by decide)]
          k_steps
          (with_reducible rename Fr g' _ _ _ => FK)
          (with_reducible rename News g' _ _ _ => NK)
          refine' kind_call B' FK X' NK T' ?hAf ?hff ?hkk ?hrr (K.mono (by walk_at "mem tail")) ?_
          case hAf => exact Around.frames_deeper B'.stack
          case hff => exact rfl
          case hkk => exact rfl
          case hrr =>
            have hr : A.depth + 1 + 10 < recursionLimit := by omega
            exact hr
          intro hK tkK tK FK2 NK2
          cases b5
          · k_steps
            (with_reducible rename Fr h₀ L _ m => FE)
            (with_reducible rename News h₀ L _ _ => NE)
            refine hok _ _ _ _ FE NE (by walk_at "mem tail") ?_
            rw [show outOf a b c d kd false v5 = (("ValueError" : Str), _) by simp only [outOf, if_neg hb]; rfl]
            exact ⟨_, _, _, _, rfl, .head _, .cons (by k_mem) ⟨_, rfl⟩ (.cons (by k_mem) rfl .nil)⟩
          · k_steps
            (with_reducible rename Fr g' _ _ _ => FL)
            (with_reducible rename News g' _ _ _ => NL)
            refine ListComp_listJ FL (by with_unfolding_all rfl) (by decide) (by with_unfolding_all rfl) (by decide) (by with_unfolding_all rfl) (by intro _; with_unfolding_all rfl) ?_
            k_steps
            (with_reducible rename Fr g' _ _ _ => FW)
            (with_reducible rename News g' _ _ _ => NW)
            refine nmN NW ?_
            intro nwb enb
            rw [← enb] at NW
            refine ⟨fun i ys nw => (∀ p ∈ nwb, p ∈ nw) ∧ OutEls nw ys (([("whole", .int a), ("whole", .int b), ("whole", .int c), ("whole", .int d)] : List (Str × Told)).take i), _, #[.int a w1, .int b w2, .int c w3, .int d w4], _, nwb, rfl, hh, FW, NW, Nat.le_of_ble_eq_true rfl, ⟨fun p hp => hp, .nil⟩, fun i ys nw q => q.1 _ (by rw [enb]; k_mem), ?_, ?_⟩
            · rintro i v ys nw I oI C oC D m₂ h tk E' hv ⟨hsub, hO⟩ hC hm2 FC NC off dist
              have hoff := Off3.mem off
              obtain ⟨z, t, hes, rfl⟩ : ∃ z t, ([("whole", .int a), ("whole", .int b), ("whole", .int c), ("whole", .int d)] : List (Str × Told))[i]? = some (("whole" : Str), Told.int z) ∧ v = .int z t := by
                have hi : i = 0 ∨ i = 1 ∨ i = 2 ∨ i = 3 := by
                  have := (Array.getElem?_eq_some_iff.mp hv).1
                  simp at this
                  omega
                rcases hi with rfl | rfl | rfl | rfl
                · obtain rfl : Value.int a w1 = v := by simpa using hv
                  exact ⟨_, _, rfl, rfl⟩
                · obtain rfl : Value.int b w2 = v := by simpa using hv
                  exact ⟨_, _, rfl, rfl⟩
                · obtain rfl : Value.int c w3 = v := by simpa using hv
                  exact ⟨_, _, rfl, rfl⟩
                · obtain rfl : Value.int d w4 = v := by simpa using hv
                  exact ⟨_, _, rfl, rfl⟩
              have hlt2 := news_lt NC
              simp only [AllLt] at hlt2
              clear FW NW
              k_steps
              (with_reducible rename Fr g' _ _ _ => FT)
              (with_reducible rename News g' _ _ _ => NT)
              rename (_ < _ ∧ _ < _ ∧ _ < _ ∧ AllLt _ nw) => l8
              refine nm1o NT ?_
              intro Tn on e1 e2
              subst e1
              rw [← e2] at NT
              refine CompEnd.intro FT NT ((Tn, on) :: nw) (by walk_at "mem all") ?_ trivial ⟨fun p hp => .tail _ (hsub p hp), ?_⟩
              · exact Off3.of (List.forall_mem_cons.mpr ⟨⟨by k_ne, by k_ne, by k_ne⟩, hoff⟩)
              · rw [List.take_add_one, hes]
                exact (hO.mono fun p hp => .tail _ hp).append (.cons (by rw [e2]; exact .head _) ⟨_, rfl⟩ .nil)
            · rintro D6 h6 tk6 ys nw F6 N6 o6 ⟨hsub, hO⟩
              dsimp only
              clear FW NW
              have hsubn : ∀ p ∈ news, p ∈ nw := fun p hp => hsub p (by rw [enb]; revert p hp; walk_at "mem tail")
              rw [enb] at hsub
              simp only [List.forall_mem_cons] at hsub
              have hyl := hO.length
              obtain ⟨y1, y2, y3, y4, rfl⟩ := len4v (ys := ys) (by rw [hyl]; rfl)
              refine add_M F6 N6 (.tail _ hsub.1) (.head _) ?_ (Nat.le_of_ble_eq_true rfl)
              intro BL cL hL FL1 NL1
              dsimp only
              k_steps
              (with_reducible rename Fr g' _ _ _ => F7)
              (with_reducible rename News g' _ _ _ => N7)
              refine add_M F7 N7 (.tail _ (.head _)) (.head _) ?_ (Nat.le_of_ble_eq_true rfl)
              intro B2 c2 h2 FL2 NL2
              dsimp only
              k_steps
              (with_reducible rename Fr h₀ L _ m => FE)
              (with_reducible rename News h₀ L _ _ => NE)
              refine hok _ _ _ _ FE NE (fun p hp => .tail _ (.tail _ (.tail _ (.tail _ (hsubn p hp))))) ?_
              rw [show outOf a b c d kd true v5 = (("taken" : Str), tk5 a b c d kd v5) by simp only [outOf, if_neg hb]; rfl]
              exact ⟨_, _, _, _, rfl, .head _, (hO.mono fun p hp => .tail _ (.tail _ (.tail _ (.tail _ hp)))).append (.cons (.tail _ (.tail _ (.tail _ (.tail _ hsub.2.1)))) rfl .nil)⟩
end
end Mine
end
section
open PySem PySem.W PyProof.Rows PySem.Calls PySem.SeqAt
set_option maxRecDepth 100000
namespace Mine
section
variable {prog : Program} {w : World} {A : Around} {E : Value → Shared → Prop} {s : Shared} {h₀ : Heap} {L : Addr} {news : List (Addr × Obj)} {Q : Value → Shared → Prop}
theorem told_eq {d : Told} {v v' : Value} (h1 : d.is v) (h2 : d.is v') : EqAt A s v v' true := by
  cases d with
  | int n =>
    obtain ⟨t, rfl⟩ := h1
    obtain ⟨t', rfl⟩ := h2
    have := EqAt.int_int (A := A) (s := s) n t n t'
    rwa [beq_self_eq_true] at this
  | str x =>
    obtain ⟨t, rfl⟩ := h1
    obtain ⟨t', rfl⟩ := h2
    have := EqAt.str_str (A := A) (s := s) x t x t'
    rwa [beq_self_eq_true] at this
  | same u =>
    obtain rfl : v = u := h1
    obtain rfl : v' = v := h2
    exact EqAt.same _
theorem outEls_at : ∀ {vs vs' : List Value} {es : List (Str × Told)}, OutEls news vs es → OutEls news vs' es → News h₀ L s.heap news → A.units < cLine → ∀ j (h1 : j < vs.length) (h2 : j < vs'.length), EqAt A s (vs[j]) (vs'[j]) true
  | _, _, _, .nil, _, _, _ => fun j h1 => absurd h1 (Nat.not_lt_zero _)
  | _, _, _, .cons (T := T) (t := t) (k := k) (v := v) hm hd r, .cons (T := T') (t := t') (v := v') hm' hd' r', N, hu => fun j h1 h2 => by
    cases j with
    | zero =>
      show EqAt A s (.ref T) (.ref T') true
      by_cases e : T = T'
      · rw [e]; exact EqAt.same _
      · refine EqAt.of_refs e ?_
        have q := RcAt.tuples (A := A) (s := s) (l := T) (b := T') (items := #[.str k t, v]) (items2 := #[.str k t', v']) (e := fun _ => true) ⟨_, (N _ hm).1, rfl, _, rfl⟩ ⟨_, (N _ hm').1, rfl, _, rfl⟩ hu (fun j h1 h2 => by
          have hj : j = 0 ∨ j = 1 := by simp at h1; omega
          rcases hj with rfl | rfl
          · have q := EqAt.str_str (A := A.in1) (s := s) k t k t'
            rw [beq_self_eq_true] at q
            exact q
          · exact told_eq hd hd')
        exact q
    | succ j => exact outEls_at r r' N hu j (Nat.lt_of_succ_lt_succ h1) (Nat.lt_of_succ_lt_succ h2)
/-- two results that tell the same are not unequal -/
theorem out_ne {R1 R2 : Addr} {hd : Str} {es : List (Str × Told)} (N : News h₀ L s.heap news) (o1 : OutIs news R1 hd es) (o2 : OutIs news R2 hd es) (hu : A.units < cLine) (hu1 : A.in1.units < cLine) (h : Q (.bool false) s) : wpAny (model prog w) A (compareOp .NotEq (.ref R1) (.ref R2)) Q E s := by
  obtain ⟨t1, vs1, its1, c1, e1, m1, O1⟩ := o1
  obtain ⟨t2, vs2, its2, c2, e2, m2, O2⟩ := o2
  obtain rfl : its1 = (.str hd t1 :: vs1).toArray := by rw [← e1]
  obtain rfl : its2 = (.str hd t2 :: vs2).toArray := by rw [← e2]
  have hl : vs1.length = vs2.length := O1.length.trans O2.length.symm
  have q := RcNeAt.lists (A := A) (s := s) (l := R1) (b := R2) (items := (.str hd t1 :: vs1).toArray) (items2 := (.str hd t2 :: vs2).toArray) (e := fun _ => true) ⟨_, (N _ m1).1, rfl, _, rfl⟩ ⟨_, (N _ m2).1, rfl, _, rfl⟩ (by simpa using hl) hu (fun j h1 h2 => by
    cases j with
    | zero =>
      have q := EqAt.str_str (A := A.in1) (s := s) hd t1 hd t2
      rw [beq_self_eq_true] at q
      exact q
    | succ j => exact outEls_at O1 O2 N hu1 j (by simpa using h1) (by simpa using h2))
  have e : (!(List.range (Value.str hd t1 :: vs1).toArray.size).all (fun _ => true)) = false := by simp
  rw [e] at q
  exact q prog w E Q h
theorem OutIs.mono {nw nw' : List (Addr × Obj)} {R : Addr} {hd : Str} {es : List (Str × Told)} (hs : ∀ p ∈ nw, p ∈ nw') (o : OutIs nw R hd es) : OutIs nw' R hd es := by
  obtain ⟨t, vs, its, c, e, m, O⟩ := o
  exact ⟨t, vs, its, c, e, hs _ m, O.mono hs⟩
end
end Mine
end
section
open PySem PySem.W PyProof.Rows PySem.Calls
set_option maxRecDepth 100000
namespace Mine
section
variable {h₀ h : Heap} {L : Addr}
theorem abs0 {prog : Program} {w : World} {K : Type} [DecidableEq K] {knd : PySem.KeyKind prog w K} {kvs : List (K × Value)} {lh ls ld lt ll lo : Addr} {o : Obj} {its i1 i2 : Array Value} {n1 n2 n3 n4 n5 : Nat} {x1 : Str} {x2 : Array UInt8} {t1 t2 t3 t4 y1 y2 y3 y4 y5 : Tok}
  (N : News h₀ L h [(lh, W.listOf its n1), (ls, W.listOf #[.none, .str x1 t1, .bytes x2 t2, .ref ll, .ref lt, .ref ld, .float 4602678819172646912 t3, .float 4607182418800017408 t4] n2), (ld, o), (lt, { cls := .type "tuple", data := .seq i1 n3 }), (ll, W.listOf i2 n4), (lo, W.listOf #[.int 24 y1, .int 60 y2, .int 60 y3, .int 1000000 y4, .int 2 y5] n5)]) (hD : Obj.IsDictOf knd o kvs) :
  ∃ nw0 st tp, News h₀ L h nw0 ∧ (lh, W.listOf its n1) ∈ nw0 ∧ (ls, W.listOf st n2) ∈ nw0 ∧ (lo, W.listOf tp n5) ∈ nw0 ∧ st.size = 8 ∧ (∀ k : Int, 0 ≤ k → k < 8 → ∃ v kd, st[k.toNat]? = some v ∧ Fold nw0 v kd (k == 7) ∧ Strange nw0 v) ∧ tp.size = 5 ∧ ∀ (i : Nat) u, tp[i]? = some u → ∃ n t, u = .int n t ∧ 0 < n ∧ n ≤ 1000000 := by
  obtain ⟨es, ep, ⟨hc, hdd, hsl⟩, hdat, -⟩ := hD
  obtain ⟨oc, od, oda, osl⟩ := o
  simp only at hc hdd hsl hdat
  subst hc hdd hsl hdat
  refine ⟨_, _, _, N, .head _, .tail _ (.head _), .tail _ (.tail _ (.tail _ (.tail _ (.tail _ (.head _))))), rfl, fun k h0 h8 => ?_, rfl, fun i u hu => ?_⟩
  · have hk : k = 0 ∨ k = 1 ∨ k = 2 ∨ k = 3 ∨ k = 4 ∨ k = 5 ∨ k = 6 ∨ k = 7 := by omega
    have mk : ∀ {v kd b} {k : Int}, k.toNat < 8 → #[Value.none, .str x1 t1, .bytes x2 t2, .ref ll, .ref lt, .ref ld, .float 4602678819172646912 t3, .float 4607182418800017408 t4][k.toNat]? = some v → Fold _ v kd b → (k == 7) = b → (∀ n t, v ≠ .int n t) → (∀ b, v ≠ .bool b) → ∃ v kd, #[Value.none, .str x1 t1, .bytes x2 t2, .ref ll, .ref lt, .ref ld, .float 4602678819172646912 t3, .float 4607182418800017408 t4][k.toNat]? = some v ∧ Fold [(lh, W.listOf its n1), (ls, W.listOf #[.none, .str x1 t1, .bytes x2 t2, .ref ll, .ref lt, .ref ld, .float 4602678819172646912 t3, .float 4607182418800017408 t4] n2), (ld, { cls := .type "dict", data := .dict es ep }), (lt, { cls := .type "tuple", data := .seq i1 n3 }), (ll, W.listOf i2 n4), (lo, W.listOf #[.int 24 y1, .int 60 y2, .int 60 y3, .int 1000000 y4, .int 2 y5] n5)] v kd (k == 7) ∧ Strange [(lh, W.listOf its n1), (ls, W.listOf #[.none, .str x1 t1, .bytes x2 t2, .ref ll, .ref lt, .ref ld, .float 4602678819172646912 t3, .float 4607182418800017408 t4] n2), (ld, { cls := .type "dict", data := .dict es ep }), (lt, { cls := .type "tuple", data := .seq i1 n3 }), (ll, W.listOf i2 n4), (lo, W.listOf #[.int 24 y1, .int 60 y2, .int 60 y3, .int 1000000 y4, .int 2 y5] n5)] v :=
      fun _ e K hb h1 h2 => ⟨_, _, e, hb ▸ K, ⟨_, _, K⟩, h1, h2⟩
    rcases hk with rfl | rfl | rfl | rfl | rfl | rfl | rfl | rfl
    · exact mk (by decide) rfl .none rfl (fun _ _ => nofun) (fun _ => nofun)
    · exact mk (by decide) rfl (.str _ _) rfl (fun _ _ => nofun) (fun _ => nofun)
    · exact mk (by decide) rfl (.bytes _ _) rfl (fun _ _ => nofun) (fun _ => nofun)
    · exact mk (by decide) rfl (.list (.tail _ (.tail _ (.tail _ (.tail _ (.head _)))))) rfl (fun _ _ => nofun) (fun _ => nofun)
    · exact mk (by decide) rfl (.tuple (.tail _ (.tail _ (.tail _ (.head _))))) rfl (fun _ _ => nofun) (fun _ => nofun)
    · exact mk (by decide) rfl (.dict (.tail _ (.tail _ (.head _)))) rfl (fun _ _ => nofun) (fun _ => nofun)
    · exact mk (by decide) rfl (.float _ _) (by decide +kernel) (fun _ _ => nofun) (fun _ => nofun)
    · exact mk (by decide) rfl (.float _ _) (by decide +kernel) (fun _ _ => nofun) (fun _ => nofun)
  · have hi : i = 0 ∨ i = 1 ∨ i = 2 ∨ i = 3 ∨ i = 4 := by
      have := (Array.getElem?_eq_some_iff.mp hu).1
      simp at this
      omega
    rcases hi with rfl | rfl | rfl | rfl | rfl
    · obtain rfl : Value.int 24 y1 = u := by simpa using hu
      exact ⟨_, _, rfl, by decide, by decide⟩
    · obtain rfl : Value.int 60 y2 = u := by simpa using hu
      exact ⟨_, _, rfl, by decide, by decide⟩
    · obtain rfl : Value.int 60 y3 = u := by simpa using hu
      exact ⟨_, _, rfl, by decide, by decide⟩
    · obtain rfl : Value.int 1000000 y4 = u := by simpa using hu
      exact ⟨_, _, rfl, by decide, by decide⟩
    · obtain rfl : Value.int 2 y5 = u := by simpa using hu
      exact ⟨_, _, rfl, by decide, by decide⟩
end
theorem nums5 {q : List Int} (h5 : 5 ≤ q.length) (hb : ∀ x ∈ q, Builtin.Int.intBits x ≤ 2 ^ 20) :
    ∃ x1 x2 x3 x4 x5 : Int, List.take 5 q = [x1, x2, x3, x4, x5] ∧ ∀ x ∈ [x1, x2, x3, x4, x5], Builtin.Int.intBits x ≤ 2 ^ 20 := by
  obtain ⟨x1, x2, x3, x4, x5, e⟩ := len5 (ns := List.take 5 q) (by rw [List.length_take]; omega)
  refine ⟨x1, x2, x3, x4, x5, e, ?_⟩
  rw [← e]
  exact fun x hx => hb x (List.mem_of_mem_take hx)
section
variable {prog : Program} {w : World} {A : Around} {E : Value → Shared → Prop} {s : Shared} {h₀ : Heap} {L : Addr} {m : Str → Option Value} {news : List (Addr × Obj)} {Q : Value → Shared → Prop}
theorem add_nums {l b : Addr} {sv : List Value} {held : List Int} {x y c1 c2 : Nat} {t : Tok} (F : Fr h₀ L s.heap m) (N : News h₀ L s.heap news) (h1 : (l, W.listOf sv.toArray c1) ∈ news) (h2 : (b, W.listOf (List.replicate (Int.toNat 5) [Value.int 0 t]).flatten.toArray c2) ∈ news)
  (hS : IntsAre sv (List.take x (List.drop y held))) (hl : held.length ≤ 63) (hb : ∀ x ∈ held, Builtin.Int.intBits x ≤ 2 ^ 20)
  (h : ∀ B c h' vs q, IntsAre vs q → 5 ≤ q.length → q.length ≤ 100 → (∀ x ∈ q, Builtin.Int.intBits x ≤ 2 ^ 20) → Fr h₀ L h' m → News h₀ L h' ((B, W.listOf vs.toArray c) :: news) → Q (.ref B) { s with heap := h' }) : wpAny (model prog w) A (binaryOp .Add (.ref l) (.ref b)) Q E s := by
  have hlen := hS.length
  have hlt : (List.take x (List.drop y held)).length ≤ 63 := by
    rw [List.length_take, List.length_drop]
    omega
  refine add_lists (vs := sv) (ws := [.int 0 t, .int 0 t, .int 0 t, .int 0 t, .int 0 t]) F N ⟨_, (N _ h1).1, rfl, _, rfl⟩ ⟨_, (N _ h2).1, rfl, _, rfl⟩ (fun h' F' N' => h _ _ h' _ (List.take x (List.drop y held) ++ [0, 0, 0, 0, 0]) (hS.append (.cons _ _ (.cons _ _ (.cons _ _ (.cons _ _ (.cons _ _ .nil)))))) ?_ ?_ ?_ F' N') ?_
  · rw [List.length_append]
    simp only [List.length_cons, List.length_nil]
    omega
  · rw [List.length_append]
    simp only [List.length_cons, List.length_nil]
    omega
  · intro z hz
    rcases List.mem_append.mp hz with hz | hz
    · exact hb z (List.mem_of_mem_drop (List.mem_of_mem_take hz))
    · have e0 : z = 0 := by simpa using hz
      rw [e0]
      decide
  · simp only [List.length_cons, List.length_nil, sizeLine]
    omega
end
theorem map5 {its : List (Addr × Obj)} {a b c d e : Addr} (h : its.map (·.1) = [a, b, c, d, e]) : ∃ o1 o2 o3 o4 o5, its = [(a, o1), (b, o2), (c, o3), (d, o4), (e, o5)] := by
  rcases its with _ | ⟨⟨a1, o1⟩, _ | ⟨⟨a2, o2⟩, _ | ⟨⟨a3, o3⟩, _ | ⟨⟨a4, o4⟩, _ | ⟨⟨a5, o5⟩, _ | ⟨q, r⟩⟩⟩⟩⟩⟩ <;> simp only [List.map_cons, List.map_nil, List.cons.injEq, reduceCtorEq, and_false, false_and, and_true] at h
  obtain ⟨rfl, rfl, rfl, rfl, rfl⟩ := h
  exact ⟨o1, o2, o3, o4, o5, rfl⟩
/-- a whole number or a truth, of no more than a million bits -/
def IBs (v : Value) : Prop := ∃ z, IB v z ∧ Builtin.Int.intBits z ≤ 2 ^ 20
theorem fold_of {nw : List (Addr × Obj)} {v : Value} {z : Int} (i : IB v z) : ∃ kd, Fold nw v kd (z * z == z) := by
  cases i with
  | int n t =>
    refine ⟨"whole", ?_⟩
    have e : (z * z == z) = (z == 0 || z == 1) := by
      by_cases h0 : z = 0
      · subst h0; rfl
      · by_cases h1 : z = 1
        · subst h1; rfl
        · have h2 : ¬ z * z = z := fun h => by
            have h3 : z * (z - 1) = 0 := by rw [Int.mul_sub, Int.mul_one]; omega
            rcases Int.mul_eq_zero.mp h3 with h4 | h4
            · exact h0 h4
            · omega
          rw [beq_eq_false_iff_ne.mpr h2, beq_eq_false_iff_ne.mpr h0, beq_eq_false_iff_ne.mpr h1]
          rfl
    rw [e]
    exact .int _ _
  | bool b =>
    refine ⟨"truth", ?_⟩
    have e : ((if b = true then (1 : Int) else 0) * (if b = true then (1 : Int) else 0) == (if b = true then (1 : Int) else 0)) = true := by cases b <;> rfl
    rw [e]
    exact .bool _
theorem vals5 {fs : Array Value} (h : fs.size = 5) (hb : ∀ v ∈ fs.toList, IBs v) : ∃ v1 v2 v3 v4 v5, fs = #[v1, v2, v3, v4, v5] ∧ IBs v1 ∧ IBs v2 ∧ IBs v3 ∧ IBs v4 ∧ IBs v5 := by
  obtain ⟨l⟩ := fs
  obtain ⟨v1, v2, v3, v4, v5, rfl⟩ := len5v (ys := l) (by simpa using h)
  exact ⟨v1, v2, v3, v4, v5, rfl, hb _ (by simp), hb _ (by simp), hb _ (by simp), hb _ (by simp), hb _ (by simp)⟩
theorem ibs_push {fs : Array Value} {v : Value} (h : ∀ v ∈ fs.toList, IBs v) (hv : IBs v) : ∀ u ∈ (fs.push v).toList, IBs u := by
  intro u hu
  rw [Array.toList_push] at hu
  rcases List.mem_append.mp hu with hu | hu
  · exact h u hu
  · rw [List.mem_singleton.mp hu]; exact hv
section
variable {prog : Program} {w : World} {A : Around} {E : Value → Shared → Prop} {s : Shared}
/-- the square of a whole number or a truth -/
theorem sq_IB {v : Value} {z : Int} {Q : Value → Shared → Prop} (i : IB v z) (hz : Builtin.Int.intBits z ≤ 2 ^ 20) (h : ∀ t tk, Q (.int (z * z) t) { s with toks := tk }) : wpAny (model prog w) A (binaryOp .Mult v v) Q E s := by
  cases i with
  | int n t => exact mul_int (h _ _) (mulOk_of_bits hz hz (by decide))
  | bool b => exact mul_bool (by cases b <;> exact h _ _)
theorem sqeq_IB {v : Value} {z n : Int} {t : Tok} {Q : Value → Shared → Prop} (i : IB v z) (h : Q (.bool (n == z)) s) : wpAny (model prog w) A (compareOp .Eq (.int n t) v) Q E s := by
  cases i with
  | int m u => exact PySem.SeqAt.RcAt.int_int n t z u prog w E Q h
  | bool b => exact PySem.SeqAt.RcAt.int_bool n t b prog w E Q h
end
theorem ibs_fdiv {y : Int} {t : Tok} (h : Builtin.Int.intBits y ≤ 2 ^ 20) : IBs (.int (y.fdiv 4) t) := ⟨_, .int _ _, bits_fdiv h⟩
theorem ibs_bool (b : Bool) : IBs (.bool b) := ⟨_, .bool b, by cases b <;> decide⟩
theorem ibs_fmod {y p : Int} {t : Tok} (h0 : 0 < p) (h1 : p ≤ 1000000) : IBs (.int (y.fmod (p + 2) - 1) t) := by
  refine ⟨_, .int _ _, ?_⟩
  have e : y.fmod (p + 2) = y % (p + 2) := Int.fmod_eq_emod_of_nonneg _ (by omega)
  have q1 := Int.emod_nonneg y (show p + 2 ≠ 0 by omega)
  have q2 := Int.emod_lt_of_pos y (show 0 < p + 2 by omega)
  rw [e]
  generalize y % (p + 2) = r at q1 q2
  exact Nat.le_trans (PySem.intBits_le_64 (by omega) (by omega)) (by decide)
section
variable {prog : Program} {w : World} {A : Around} {E : Value → Shared → Prop} {s : Shared} {h₀ : Heap} {L : Addr} {m : Str → Option Value} {news : List (Addr × Obj)} {Q : Value → Shared → Prop}
/-- a slice of a list of the ledger -/
theorem slice_led {value slice : Expr} {l : Addr} {items : Array Value} {c : Nat} {vl vu : Value} {lo hi : Option Int} (F : Fr h₀ L s.heap m) (N : News h₀ L s.heap news) (hm : (l, W.listOf items c) ∈ news) (pl : IsPart vl lo) (pu : IsPart vu hi) (hsz : items.size ≤ sizeLine)
  (h : ∀ h' D, Fr h₀ L h' m → News h₀ L h' ((D, W.listOf (slicePick items lo hi none) 0) :: news) → (∀ p ∈ news, @LT.lt Nat _ p.1 D) → Q (.ref D) { s with heap := h' })
  (hs : subscripted slice false (.ref l) (.ref s.heap.objs.size) = operate [.ref s.heap.objs.size, .ref l] (getItem (.ref l) (.ref s.heap.objs.size)))
  (ht : ∀ r, letTemporaryGo value (.ref l) r = pure ()) :
  wpAny (model prog w) A (subscriptTail value slice (.ref l) (.ref s.heap.objs.size)) Q E { s with heap := s.heap.push { cls := .type "slice", data := .fields #[vl, vu, .none] } } := by
  refine slice_listK (items := items) ⟨_, (N _ hm).1, rfl, _, rfl⟩ pl pu ?_ hs ht hsz
  have F1 : Fr h₀ L (s.heap.push { cls := .type "slice", data := .fields #[vl, vu, .none] }) m := F.push _
  have N1 : News h₀ L (s.heap.push { cls := .type "slice", data := .fields #[vl, vu, .none] }) news := news_sub (News.push F N _) fun p hp => .tail _ hp
  have N2 := News.push F1 N1 { cls := .type "list", data := .seq (slicePick items lo hi none) }
  have e : (s.heap.push { cls := .type "slice", data := .fields #[vl, vu, .none] }).objs.size = s.heap.objs.size + 1 := Heap.size_push _ _
  rw [e] at N2
  refine h _ _ (F1.push _) N2 fun p hp => ?_
  exact Nat.lt_succ_of_lt (Heap.lt_size (N p hp).1)
theorem pick5 {vs : List Value} {q : List Int} (hi : IntsAre vs q) (h5 : 5 ≤ q.length) (hb : ∀ x ∈ q, Builtin.Int.intBits x ≤ 2 ^ 20) :
    ∃ x1 x2 x3 x4 x5 t1 t2 t3 t4 t5, slicePick vs.toArray none (some 5) none = #[.int x1 t1, .int x2 t2, .int x3 t3, .int x4 t4, .int x5 t5] ∧ ∀ x ∈ [x1, x2, x3, x4, x5], Builtin.Int.intBits x ≤ 2 ^ 20 := by
  obtain ⟨x1, x2, x3, x4, x5, ex, hx⟩ := nums5 h5 hb
  have hl := hi.length
  have e1 : clipAt vs.toArray.size 5 = 5 := by
    have := clipAt_cast vs.toArray.size 5
    simp only [List.size_toArray] at this ⊢
    omega
  have hq := hi.take 5
  rw [ex] at hq
  obtain ⟨t1, t2, t3, t4, t5, et⟩ := ints5 hq
  refine ⟨x1, x2, x3, x4, x5, t1, t2, t3, t4, t5, ?_, hx⟩
  rw [slicePick_plain]
  simp only [Option.elim, e1, Nat.sub_zero, List.drop_zero, et]
end
end Mine
end
section
open PySem PySem.W PyProof.Rows PySem.Calls LCg
set_option maxRecDepth 100000
set_option pp.maxSteps 3000
set_option maxHeartbeats 8000000
set_option rowWalk.seconds 0
namespace Mine
local macro_rules | `(tactic| k_room) => `(tactic| ((try simp only [depth_under_make, depth_under_kw, depth_in1, depth_deeper, depth_caller]); first | decide | omega | (simp only [recursionLimit] at *; omega)))
local macro_rules | `(tactic| walk_at "my stop") => `(tactic| ((fail_if_success (with_reducible show wpAny _ _ (pyIter _) (fun it s₂ => LoopAtV _ _ _ _ _ _ _ _ _ it s₂) _ _)); (fail_if_success (with_reducible show wpAny _ _ (call (Value.ref _) _ _) _ _ _)); (fail_if_success (with_reducible show wpAny _ _ (eval (Expr.ListComp _ _ _ _) _) _ _ _)); (fail_if_success (with_reducible show wpAny _ _ (noteFrame _ _) _ _ _)); (fail_if_success (with_reducible show wpAny _ _ (binaryOp Operator.Add (Value.ref _) (Value.ref _)) _ _ _)); (fail_if_success (with_reducible show wpAny _ _ (subscriptTail (Expr.BinOp _ _ _ _) _ _ _) _ _ _)); (fail_if_success (with_reducible show wpAny _ _ (compareOp CmpOp.NotEq (Value.ref _) (Value.ref _)) _ _ _)); (fail_if_success (with_reducible show wpAny _ _ (call (Value.type "zip") _) _ _ _)); skip))
local macro_rules | `(tactic| k_steps) => `(tactic| repeat' (first | (k_unfold; (try dsimp only)) | (k_end; wrow_close) | (walk_at "my stop"; walk1) | (walk_at "my stop"; dsimp only; walk1) | (leave1; walk_say "STEP leave1"; try dsimp only) | fail "no step"))
local macro_rules | `(tactic| walk_at "mem tail") => `(tactic| (intro p hp; repeat (first | exact hp | refine List.Mem.tail _ ?_)))
local macro_rules | `(tactic| walk_at "mem all") => `(tactic| repeat' (first | exact List.forall_mem_nil _ | (refine List.forall_mem_cons.mpr ⟨?_, ?_⟩) | k_mem | walk_at "mem tail"))
local macro_rules | `(tactic| walk_at "off all") => `(tactic| repeat' (first | exact List.forall_mem_nil _ | (refine List.forall_mem_cons.mpr ⟨?_, ?_⟩) | k_ne))
local macro_rules | `(tactic| k_all) => `(tactic| assumption)
local macro_rules | `(tactic| walk_at "binaryOp Mult int int") => `(tactic| ((with_reducible refine mul_int ?_ (by first | exact PySem.IntMulOk.of_right (PySem.intBits_le_64 (by omega) (by omega)) | exact PySem.IntMulOk.of_left (PySem.intBits_le_64 (by omega) (by omega)))); (try dsimp only)))
local macro_rules | `(tactic| walk_at "exec Try") => `(tactic| (refine wpAny_Try_except ?_))
local macro_rules | `(tactic| walk_at "call builtin:len") => `(tactic| (k_here; (rename Got _ _ _ _ _ => gX); (with_reducible show wpAny _ _ (call (Value.builtin "len") [Value.ref _]) _ _ _); (refine' len_got2 ?k1 ?k2 ?_; (case k1 => k_asm); (case k2 => got_up))))
local macro_rules | `(tactic| walk_at "call builtin:list.index") => `(tactic| (k_here; (first
  | (refine' index_list_strs 0 ?k1 ?k2 ?k3 ?k4 ?k5 ?_; (case k1 => is_list); (case k2 => exact .cons _ _ (.cons _ _ (.cons _ _ (.cons _ _ (.cons _ _ .nil))))); (case k3 => exact Nat.le_of_ble_eq_true rfl); (case k4 => exact rfl); (case k5 => exact rfl))
  | (refine' index_list_strs 1 ?k1 ?k2 ?k3 ?k4 ?k5 ?_; (case k1 => is_list); (case k2 => exact .cons _ _ (.cons _ _ (.cons _ _ (.cons _ _ (.cons _ _ .nil))))); (case k3 => exact Nat.le_of_ble_eq_true rfl); (case k4 => exact rfl); (case k5 => exact rfl))
  | (refine' index_list_strs 2 ?k1 ?k2 ?k3 ?k4 ?k5 ?_; (case k1 => is_list); (case k2 => exact .cons _ _ (.cons _ _ (.cons _ _ (.cons _ _ (.cons _ _ .nil))))); (case k3 => exact Nat.le_of_ble_eq_true rfl); (case k4 => exact rfl); (case k5 => exact rfl))
  | (refine' index_list_strs 3 ?k1 ?k2 ?k3 ?k4 ?k5 ?_; (case k1 => is_list); (case k2 => exact .cons _ _ (.cons _ _ (.cons _ _ (.cons _ _ (.cons _ _ .nil))))); (case k3 => exact Nat.le_of_ble_eq_true rfl); (case k4 => exact rfl); (case k5 => exact rfl))
  | (refine' index_list_strs 4 ?k1 ?k2 ?k3 ?k4 ?k5 ?_; (case k1 => is_list); (case k2 => exact .cons _ _ (.cons _ _ (.cons _ _ (.cons _ _ (.cons _ _ .nil))))); (case k3 => exact Nat.le_of_ble_eq_true rfl); (case k4 => exact rfl); (case k5 => exact rfl)))))
local macro_rules | `(tactic| walk_at "subscriptTail Attribute Name Constant ref int") => `(tactic| (k_here; (rename Got _ _ _ _ _ => gX); refine item_tupleT (Got.isTup (by assumption) (by got_up)) (by omega) (by omega) (by rfl) (by rfl) ?_))
local macro_rules | `(tactic| walk_at "units") => `(tactic| ((try simp only [units_deeper, units_in1, units_caller, cLine_is]); first | decide | (simp only [cLine_is] at *; omega)))
local macro_rules | `(tactic| walk_at "exec For Tuple Call cons nil") => `(tactic| (k_here; (rename Fr _ _ _ _ => lF'); (with_unfolding_all refine' For_turns lF' ?_)))
local macro_rules | `(tactic| walk_at "binaryOp Mult") => `(tactic| (refine sq_IB (by assumption) (by assumption) ?_; intro tX tkX))
local macro_rules | `(tactic| walk_at "compareOp Eq int") => `(tactic| (refine sqeq_IB (by assumption) ?_))
local macro_rules | `(tactic| walk_at "call builtin:sum") => `(tactic| (k_here; (with_reducible show wpAny _ _ (call (Value.builtin "sum") [Value.ref _]) _ _ _); (with_unfolding_all refine' sum_led ?k0 ?k1 ?k2 ?k3 ?k4 ?_; (case k0 => with_unfolding_all rfl); (case k1 => k_asm); (case k2 => k_asm); (case k3 => k_mem); (case k4 => first | assumption | exact IntsAre.pick (by assumption) _ _ _); k_whole); intro h' tk' t' F' N'))
local macro_rules | `(tactic| walk_at "subscriptTail Name Name ref int") => `(tactic| (k_here; refine PyProof.Rows.item_list (by is_list) (by omega) (by omega) (by assumption) ?_ (by with_unfolding_all rfl) (by intro _; with_unfolding_all rfl)))
theorem nmI {vs : List Value} {ns : List Int} (_ : IntsAre vs ns) {P : Prop} (k : ∀ ns', ns' = ns → P) : P := k ns rfl
theorem nmV {vs : List Value} {ns : List Int} (_ : IntsAre vs ns) {P : Prop} (k : ∀ vs', vs' = vs → P) : P := k vs rfl
theorem nmM {a : Addr} {o : Obj} {nw : List (Addr × Obj)} (_ : (a, o) ∈ nw) {P : Prop} (k : ∀ a', a' = a → P) : P := k a rfl
theorem map_but1 {y : Str} {v : Option Value} {ys : List Str} {m m₀ : Str → Option Value} (h1 : m y = v) (h : ∀ z, z ∉ ys → m z = m₀ z) : m = fun z => if z = y then v else if z ∈ ys then m z else m₀ z := by
  funext z; by_cases hy : z = y
  · simp only [if_pos hy]; rw [hy]; exact h1
  · by_cases hz : z ∈ ys
    · simp only [if_neg hy, if_pos hz]
    · simp only [if_neg hy, if_neg hz]; exact h z hz
theorem allLt_mem {n : Nat} : ∀ {l : List (Addr × Obj)}, AllLt n l → ∀ p ∈ l, p.1 < n
  | [], _, _, h => nomatch h
  | _ :: _, x, p, h => by
    rcases List.mem_cons.mp h with rfl | h
    · exact x.1
    · exact allLt_mem x.2 p h
theorem fm8 (x : Int) : 0 ≤ x.fmod 8 ∧ x.fmod 8 < 8 := by
  rw [Int.fmod_eq_emod_of_nonneg _ (by decide)]
  omega
theorem map_but3 {x y u : Str} {v1 v2 v3 : Option Value} {ys : List Str} {m m₀ : Str → Option Value} (h1 : m x = v1) (h2 : m y = v2) (h3 : m u = v3) (h : ∀ z, z ∉ ys → m z = m₀ z) : m = fun z => if z = x then v1 else if z = y then v2 else if z = u then v3 else if z ∈ ys then m z else m₀ z := by
  funext z; by_cases hx : z = x
  · simp only [if_pos hx]; rw [hx]; exact h1
  · by_cases hy : z = y
    · simp only [if_neg hx, if_pos hy]; rw [hy]; exact h2
    · by_cases hu : z = u
      · simp only [if_neg hx, if_neg hy, if_pos hu]; rw [hu]; exact h3
      · by_cases hz : z ∈ ys
        · simp only [if_neg hx, if_neg hy, if_neg hu, if_pos hz]
        · simp only [if_neg hx, if_neg hy, if_neg hu, if_neg hz]; exact h z hz
theorem endK {mK m2 : Str → Option Value} {v1 v2 v3 vk : Value} (h1 : mK ("five" : Str) = some v1) (h2 : mK ("stranger" : Str) = some v2) (h3 : mK ("which" : Str) = some v3) :
    ∀ z, z ∉ (["k"] : List Str) → (if z = ("k" : Str) then some vk else if z = ("five" : Str) then some v1 else if z = ("stranger" : Str) then some v2 else if z = ("which" : Str) then some v3 else if z ∈ (["k"] : List Str) then m2 z else mK z) = mK z := by
  intro z hz
  simp only [List.mem_cons, List.not_mem_nil, or_false] at hz
  simp only [List.mem_cons, List.not_mem_nil, or_false, hz, if_false]
  repeat' split
  · rename_i e
    rw [e]
    exact h1.symm
  · rename_i e
    rw [e]
    exact h2.symm
  · rename_i e
    rw [e]
    exact h3.symm
  · rfl
theorem below_at {A : Around} {h₀ h : Heap} {L : Addr} {m : Str → Option Value} {o : List Env} (_ : Fr h₀ L h m) (B : Below A h₀ o h₀) : Below A h₀ o h₀ := B
theorem rng3 : ∀ n : Fin 64, Builtin.Range.small 0 (if ((n.val : Nat) : Int) > 1 then ((n.val : Nat) : Int) else 1) 5 = true := by decide +kernel
theorem rngN (n : Nat) : Builtin.Range.rangeSize 0 (if (n : Int) > 1 then (n : Int) else 1) 5 = (((if n > 1 then n else 1) + 4) / 5 : Nat) := by
  by_cases h : n > 1
  · rw [if_pos h, if_pos (by omega)]
    simp only [Builtin.Range.rangeSize]
    omega
  · rw [if_neg h, if_neg (by omega)]
    rfl
theorem law_holds : PySem.Challenge.rw_km0086_03.Holds := Mine.hd (by
  w_top off
  k_go0; (all_goals try k_fold); k_steps
  rename IsRange _ _ _ _ _ _ _ _ => R1
  rename News _ _ _ _ => N1
  rename Fr _ _ _ _ => F1
  rename IntsAre _ (List.take 200 _) => hH
  rename Obj.IsDictOf _ _ _ => hD
  rename (PyData.list (List.map PyData.int _)).layable0 = true => hLay
  obtain ⟨nw0, st, tp, N2, hmH, hmS, hmT, hst8, hst, htp5, htp⟩ := abs0 N1 hD
  have hbit : ∀ x ∈ List.take 200 _, Builtin.Int.intBits x ≤ 2 ^ 20 := fun x hx => PyData.bits_item_of_ints hLay (List.mem_of_mem_take hx)
  refine nmI hH ?_
  intro held eh
  rw [← eh] at hH R1 hbit
  have hhl : held.length ≤ 63 := by
    rw [eh, List.length_take]
    omega
  clear eh hD N1 hLay
  refine nmM hmH ?_
  intro lh e1
  refine nmM hmS ?_
  intro ls e2
  refine nmM hmT ?_
  intro lt e3
  subst e1 e2 e3
  refine nmF F1 ?_
  intro m₀ em
  have h0h : m₀ ("held" : Str) = some (.ref lh) := by subst em; rfl
  have h0s : m₀ ("strangers" : Str) = some (.ref ls) := by subst em; rfl
  have h0t : m₀ ("tops" : Str) = some (.ref lt) := by subst em; rfl
  have hlt0 := news_lt (news_cons (news_cons (news_cons N2 hmT) (.tail _ hmS)) (.tail _ (.tail _ hmH)))
  simp only [AllLt] at hlt0
  clear hlt0
  refine j_range (((if held.length > 1 then held.length else 1) + 4) / 5) (fun i m nw => nw = nw0 ∧ (∀ z, z ∉ (["start", "numbers", "five", "top", "x", "which", "stranger", "k", "odd"] : List Str) → m z = m₀ z)) rfl R1 ?_ ?_ F1 N2 ?_ ?_ ?_
  · generalize held.length = n at hhl ⊢
    exact rng3 ⟨n, by omega⟩
  · generalize held.length = n at hhl ⊢
    exact rngN n
  · subst em
    exact ⟨rfl, fun _ _ => rfl⟩
  · rintro i t m₁ nw h tk I oI hi ⟨rfl, hm1⟩ hoff F3 N3
    obtain ⟨zi, hzi⟩ : ∃ zi : Int, zi = 0 + (i : Int) * 5 := ⟨_, rfl⟩
    rw [← hzi] at F3
    have hz0 : 0 ≤ zi := by omega
    have hz5 : zi ≤ 70 := by
      split at hi
      all_goals omega
    have em₁ := map_but3 ((hm1 "held" (by decide)).trans h0h) ((hm1 "strangers" (by decide)).trans h0s) ((hm1 "tops" (by decide)).trans h0t) hm1
    rw [em₁] at F3
    clear em₁ em
    dsimp only [envOfC] at F3 N3
    have NA := news_cons (news_cons (news_cons N3 (.tail _ hmT)) (.tail _ (.tail _ hmS))) (.tail _ (.tail _ (.tail _ hmH)))
    have hlt' := news_lt NA
    simp only [AllLt] at hlt'
    clear N3 N2 F1 R1 hi hm1
    k_steps
    rename News _ _ _ _ => N4
    rename Fr _ _ _ _ => F4
    rename IntsAre _ (List.take _ (List.drop _ _)) => hS
    refine add_nums F4 N4 (.tail _ (.tail _ (.head _))) (.head _) hS hhl hbit ?_
    intro lA cA hA vA qA hqA hq5 hq100 hbq FA NA2
    have NA3 := news_sub (nw' := (lA, _) :: (lh, _) :: (ls, _) :: (lt, _) :: (I, oI) :: nw) NA2 (by walk_at "mem all")
    have hlt' := news_lt NA3
    simp only [AllLt] at hlt'
    rename IntsAre (List.flatten _) _ => gg1
    rename Array.size (List.toArray (List.flatten _)) = _ => gg2
    rename List.length (List.flatten _) = _ => gg3
    clear N4 F4 hS NA2 gg1 gg2 gg3
    dsimp only
    k_steps
    obtain ⟨x1, x2, x3, x4, x5, tx1, tx2, tx3, tx4, tx5, ep, hbx⟩ := pick5 hqA hq5 hbq
    refine PySem.W.kba_turn (value' := PySem.Expr.Name (PySem.Str.ofString "_") ⟨0, 0, 0, 0⟩) (fun _ => rfl) ?_
    refine slice_led FA NA3 (.head _) .none (.int 5 _) (by rw [List.size_toArray, hqA.length]; exact Nat.le_trans hq100 (by decide)) ?_ (by with_unfolding_all rfl) (by intro _; with_unfolding_all rfl)
    intro hB lN FB NB hltB
    rw [ep] at NB
    have hltB' := allLt_of hltB
    simp only [AllLt] at hltB'
    clear hltB ep hqA hbq hq5 hq100 FA NA3
    dsimp only
    k_steps
    rename News _ _ _ _ => N4
    rename Fr _ _ _ _ => F4
    refine nm1 N4 ?_
    intro l5 e1
    subst e1
    refine nmF F4 ?_
    intro m2 em2
    have hfv : m2 ("five" : Str) = some (.ref l5) := by subst em2; rfl
    have N5 := news_sub (nw' := (l5, _) :: (lN, _) :: (lt, _) :: (ls, _) :: (lh, _) :: (I, oI) :: nw) N4 (by walk_at "mem all")
    refine nmT N5 ?_
    intro rest er
    have hrl : ∀ p ∈ rest, p.1 ≠ l5 := by
      subst er
      rename (lN < l5 ∧ _) => ll
      repeat' (first | exact List.forall_mem_nil _ | refine List.forall_mem_cons.mpr ⟨?_, ?_⟩ | k_ne)
      exact fun p hp => Nat.ne_of_lt (allLt_mem ll.2.2.2.2.2.2 p hp)
    refine j_zip (l1 := lt) (l2 := lN) (c1 := 0) (c2 := 0) (its1 := tp) (its2 := #[.int x1 tx1, .int x2 tx2, .int x3 tx3, .int x4 tx4, .int x5 tx5]) (fun i m nw => ∃ (fs : Array Value) (c : Nat), nw = (l5, W.listOf fs c) :: rest ∧ fs.size = i ∧ (∀ v ∈ fs.toList, IBs v) ∧
      (∀ z, z ∉ (["top", "x"] : List Str) → m z = m2 z)) rfl ?_ ?_ (by rfl) (by rfl) (by rfl) F4 N5 ?_ ?_ ?_
    · rintro i m nw ⟨fs, c, rfl, _⟩
      subst er
      k_mem
    · rintro i m nw ⟨fs, c, rfl, _⟩
      subst er
      k_mem
    · subst em2 er
      exact ⟨_, _, rfl, rfl, fun v hv => absurd hv (List.not_mem_nil), fun _ _ => rfl⟩
    · rintro i2 u2 v2 m3 nw3 h3 tk3 I3 its3 hu2 hv2 ⟨fs, cf, rfl, hfs, hfi, hm3⟩ hoff3 hmap3 F6 N6
      obtain ⟨p3, tp3, rfl, hp0, hp1⟩ := htp _ _ hu2
      obtain ⟨y3, ty3, rfl, hby⟩ : ∃ y t, v2 = .int y t ∧ Builtin.Int.intBits y ≤ 2 ^ 20 := by
        have hi : i2 = 0 ∨ i2 = 1 ∨ i2 = 2 ∨ i2 = 3 ∨ i2 = 4 := by
          have := (Array.getElem?_eq_some_iff.mp hv2).1
          simp at this
          omega
        rcases hi with rfl | rfl | rfl | rfl | rfl
        · obtain rfl : Value.int x1 tx1 = v2 := by simpa using hv2
          exact ⟨_, _, rfl, hbx _ (by simp)⟩
        · obtain rfl : Value.int x2 tx2 = v2 := by simpa using hv2
          exact ⟨_, _, rfl, hbx _ (by simp)⟩
        · obtain rfl : Value.int x3 tx3 = v2 := by simpa using hv2
          exact ⟨_, _, rfl, hbx _ (by simp)⟩
        · obtain rfl : Value.int x4 tx4 = v2 := by simpa using hv2
          exact ⟨_, _, rfl, hbx _ (by simp)⟩
        · obtain rfl : Value.int x5 tx5 = v2 := by simpa using hv2
          exact ⟨_, _, rfl, hbx _ (by simp)⟩
      have hi5 : i2 < 5 := by
        have := (Array.getElem?_eq_some_iff.mp hv2).1
        simpa using this
      have hfz : fs.size ≤ 5 := by omega
      obtain ⟨o1, o2, o3, o4, o5, rfl⟩ := map5 hmap3
      have em₁ := map_but1 (y := "five") ((hm3 "five" (by decide)).trans hfv) hm3
      rw [em₁] at F6
      clear em₁ em2
      have hq1 : @Ne Nat l5 (I3 + 4) := hoff3 _ (.head _) _ (.head _)
      have hq2 : @Ne Nat l5 (I3 + 2) := hoff3 _ (.head _) _ (.tail _ (.head _))
      have hq3 : @Ne Nat l5 (I3 + 3) := hoff3 _ (.head _) _ (.tail _ (.tail _ (.head _)))
      have hq4 : @Ne Nat l5 I3 := hoff3 _ (.head _) _ (.tail _ (.tail _ (.tail _ (.head _))))
      have hq5 : @Ne Nat l5 (I3 + 1) := hoff3 _ (.head _) _ (.tail _ (.tail _ (.tail _ (.tail _ (.head _)))))
      have N7 := news_sub (nw' := (l5, W.listOf fs cf) :: (I3 + 4, o1) :: (I3 + 2, o2) :: (I3 + 3, o3) :: (I3, o4) :: (I3 + 1, o5) :: rest) N6 (by
        simp only [List.cons_append, List.nil_append]
        refine List.forall_mem_cons.mpr ⟨by k_mem, List.forall_mem_cons.mpr ⟨by k_mem, List.forall_mem_cons.mpr ⟨by k_mem, List.forall_mem_cons.mpr ⟨by k_mem, List.forall_mem_cons.mpr ⟨by k_mem, List.forall_mem_cons.mpr ⟨by k_mem, ?_⟩⟩⟩⟩⟩⟩
        exact fun p hp => .tail _ (.tail _ (.tail _ (.tail _ (.tail _ (.tail _ hp))))))
      clear N4 N5 N6 F4 hv2 hu2 er hoff hH hst htp hbit hm3 hbx
      k_steps
      all_goals (
        (with_reducible rename Fr _ _ _ _ => FE)
        (with_reducible rename News _ _ _ _ => NE)
        try dsimp only [UnrPostW]
        refine uEnd ((l5, W.listOf (fs.push _) (cf + 1)) :: rest) FE NE (by walk_at "mem all") (by walk_at "mem all") ?_ ⟨_, _, rfl, by rw [Array.size_push, hfs], ?_, ?_⟩
        · intro p hp q hq
          rcases List.mem_cons.mp hp with rfl | hp
          · exact hoff3 _ (.head _) q hq
          · exact hoff3 _ (.tail _ hp) q hq
        · refine ibs_push hfi ?_
          first | exact ibs_fmod hp0 hp1 | exact ibs_bool _ | exact ibs_fdiv hby
        · intro z hz
          simp only [List.mem_cons, List.not_mem_nil, or_false, not_or] at hz
          simp only [hz.1, hz.2, if_false, List.mem_cons, List.not_mem_nil, or_false]
          split
          · rename_i e
            rw [e]
            exact hfv.symm
          · rfl)
    · rintro m3 nw3 h3 tk3 ⟨fs, cf, rfl, hfs, hfi, hm3⟩ F6 N6
      obtain ⟨v1, v2, v3, v4, v5, rfl, ⟨z1, i1, b1⟩, ⟨z2, i2, b2⟩, ⟨z3, i3, b3⟩, ⟨z4, i4, b4⟩, ⟨z5, i5, b5⟩⟩ := vals5 (hfs.trans (by rw [htp5]; rfl)) hfi
      have em₁ := map_but _ hm3
      rw [em₁] at F6
      clear em₁ hm3 hfi hfs N5 N4 F4
      subst em2 er
      dsimp only [envOfC] at F6 N6
      have hlt' := news_lt N6
      simp only [AllLt] at hlt'
      k_steps
      rename Below _ _ _ _ => B7
      rename Frag.In _ _ => X7
      rename Top _ _ _ _ _ _ => T7
      (with_reducible rename Fr _ _ _ _ => F7)
      (with_reducible rename News _ _ _ _ => N7)
      replace B7 := below_at F7 B7
      obtain ⟨kd5, K5⟩ := fold_of (nw := (l5, W.listOf #[v1, v2, v3, v4, v5] cf) :: (lN, W.listOf #[Value.int x1 tx1, Value.int x2 tx2, Value.int x3 tx3, Value.int x4 tx4, Value.int x5 tx5] 0) :: (lt, _) :: (ls, _) :: (lh, _) :: (I, oI) :: nw) i5
      refine outcome B7 F7 X7 X7 T7 N7 T7 rfl rfl (by k_room) rfl (by walk_at "units") (by k_mem) i1 i2 i3 i4 K5 ?_
      intro h8 tk8 R8 nw8 F8 N8 hsub8 O8
      have hs80 := hsub8
      simp only [List.forall_mem_cons] at hsub8
      have N9 := news_cons (news_cons (news_cons (news_cons (news_cons N8 hsub8.2.2.2.2.2.1) (.tail _ hsub8.2.2.2.1)) (.tail _ (.tail _ hsub8.2.1))) (.tail _ (.tail _ (.tail _ hsub8.1)))) (.tail _ (.tail _ (.tail _ (.tail _ hsub8.2.2.1))))
      have hlt' := news_lt N9
      simp only [AllLt] at hlt'
      clear F7 N7 N8
      dsimp only
      k_steps
      (with_reducible rename Fr _ _ _ _ => F10)
      (with_reducible rename News _ _ _ _ => N10)
      refine' due B7 F10 X7 N10 T7 ?hAf ?hff ?hkk ?hrr ?hhh ?huu ?hmm i1 i2 i3 i4 (Fold.mono ?hsb K5) ?_
      case hAf => exact rfl
      case hff => exact rfl
      case hkk => exact rfl
      case hrr => k_room
      case hhh => exact rfl
      case huu => walk_at "units"
      case hmm => k_mem
      case hsb => exact fun p hp => .tail _ (.tail _ (.tail _ (.tail _ (.tail _ (hs80 p hp)))))
      intro h11 tk11 R11 nw11 F11 N11 hsub11 O11
      have hsub12 : ∀ p ∈ nw8, p ∈ nw11 := fun p hp => hsub11 p (by revert p hp; walk_at "mem tail")
      have hs8 := fun p hp => hsub12 p (hsub8.2.2.2.2.2.2 p hp)
      dsimp only
      refine out_ne N11 (O8.mono hsub12) O11 (by walk_at "units") (by walk_at "units") ?_
      have hl5 := hsub12 _ hsub8.1
      have hlN := hsub12 _ hsub8.2.1
      have hls := hsub12 _ hsub8.2.2.2.1
      have hlI := hsub12 _ hsub8.2.2.2.2.2.1
      have N12 := news_cons (news_cons (news_cons (news_cons N11 hlI) (.tail _ hls)) (.tail _ (.tail _ hlN))) (.tail _ (.tail _ (.tail _ hl5)))
      have hlt' := news_lt N12
      simp only [AllLt] at hlt'
      have hS5 : IntsAre (#[Value.int x1 tx1, Value.int x2 tx2, Value.int x3 tx3, Value.int x4 tx4, Value.int x5 tx5] : Array Value).toList [x1, x2, x3, x4, x5] := .cons _ _ (.cons _ _ (.cons _ _ (.cons _ _ (.cons _ _ .nil))))
      have hf8 := fm8 ([x1, x2, x3, x4, x5] : List Int).sum
      obtain ⟨sv, kds, hsv, Ks, Ss⟩ := hst _ hf8.1 hf8.2
      clear O8 O11 N11 N10 F10 K5 hsub11 hs80
      k_steps
      rename IsRange _ _ _ _ _ _ _ _ => R2
      (with_reducible rename Fr _ _ _ _ => F13)
      (with_reducible rename News _ _ _ _ => N13)
      refine nmF F13 ?_
      intro mK emK
      have hfK : mK ("five" : Str) = some (.ref l5) := by subst emK; rfl
      have hgK : mK ("stranger" : Str) = some sv := by subst emK; rfl
      obtain ⟨tw, hwK⟩ : ∃ tw, mK ("which" : Str) = some (.int (([x1, x2, x3, x4, x5] : List Int).sum.fmod 8) tw) := by subst emK; exact ⟨_, rfl⟩
      have hmK : ∀ z, z ∉ (["start", "numbers", "five", "top", "x", "which", "stranger", "k", "odd"] : List Str) → mK z = m₀ z := by
        intro z hz
        simp only [List.mem_cons, List.not_mem_nil, or_false, not_or] at hz
        rw [emK]
        simp only [List.mem_cons, List.not_mem_nil, or_false, hz.1, hz.2.1, hz.2.2.1, hz.2.2.2.1, hz.2.2.2.2.1, hz.2.2.2.2.2.1, hz.2.2.2.2.2.2.1, hz.2.2.2.2.2.2.2.1, hz.2.2.2.2.2.2.2.2, if_false]
        repeat' split
        · rename_i e
          rw [e]
          exact h0h.symm
        · rename_i e
          rw [e]
          exact h0s.symm
        · rename_i e
          rw [e]
          exact h0t.symm
        · rfl
      rw [← emK] at F13
      clear emK
      refine nmT N13 ?_
      intro rK erK
      rw [← erK] at N13
      have hrk : ∀ p ∈ nw11, p ∈ rK := by
        subst erK
        exact fun p hp => .tail _ (.tail _ (.tail _ hp))
      have hsK : ∀ p ∈ nw, p ∈ (l5, W.listOf #[v1, v2, v3, v4, v5] cf) :: rK := fun p hp => .tail _ (hrk p (hsub12 p (hsub8.2.2.2.2.2.2 p hp)))
      refine j_range 4 (fun i m nw => nw = (l5, W.listOf #[v1, v2, v3, v4, v5] cf) :: rK ∧ (∀ z, z ∉ (["k"] : List Str) → m z = mK z)) rfl R2 (by decide +kernel) (by decide +kernel) F13 N13 ⟨rfl, fun _ _ => rfl⟩ ?_ ?_
      · rintro i2 t2 m2' nw2 h2 tk2 I2 oI2 hi2 ⟨rfl, hm2⟩ hoff2 F14 N14
        obtain ⟨zk, hzk⟩ : ∃ zk : Int, zk = 0 + (i2 : Int) * 1 := ⟨_, rfl⟩
        rw [← hzk] at F14
        have em₁ := map_but3 ((hm2 "five" (by decide)).trans hfK) ((hm2 "stranger" (by decide)).trans hgK) ((hm2 "which" (by decide)).trans hwK) hm2
        rw [em₁] at F14
        clear em₁
        have N15 := news_sub (nw' := (l5, W.listOf #[v1, v2, v3, v4, v5] cf) :: (I2, oI2) :: rK) N14 (by walk_at "mem all")
        have hlt' := news_lt N15
        simp only [AllLt] at hlt'
        have Ss2 : Strange ((l5, W.listOf #[v1, v2, v3, v4, v5] cf) :: (I2, oI2) :: rK) sv := Ss.mono fun p hp => .tail _ (.tail _ (hrk p (hsub12 p (hsub8.2.2.2.2.2.2 p hp))))
        dsimp only [envOfC] at F14 N15
        clear N14 N13 F13 R2 Ks hst hsv hS5 hrk hsK hm2 N12
        have hi' : i2 = 0 ∨ i2 = 1 ∨ i2 = 2 ∨ i2 = 3 := by omega
        rcases hi' with rfl | rfl | rfl | rfl
        · obtain rfl : zk = 0 := hzk
          k_steps
          (with_reducible rename Fr _ _ _ _ => F16)
          (with_reducible rename News _ _ _ _ => N16)
          refine add_M F16 N16 (.tail _ (.head _)) (.head _) ?_ (Nat.le_of_ble_eq_true rfl)
          intro lB cB hB2 F17 N17
          dsimp only
          k_steps
          (with_reducible rename Fr _ _ _ _ => F18)
          (with_reducible rename News _ _ _ _ => N18)
          refine add_M F18 N18 (.tail _ (.head _)) (.head _) ?_ (Nat.le_of_ble_eq_true rfl)
          intro lD cD hD2 F19 N19
          have SS := Ss2.mono (nw' := _) (by walk_at "mem tail")
          refine nmN N19 ?_
          intro nwD enD
          have hmD : (lD, W.listOf #[sv, v2, v3, v4, v5] cD) ∈ nwD := by rw [enD]; exact .head _
          have hsD : ∀ p ∈ (l5, W.listOf #[v1, v2, v3, v4, v5] cf) :: (I2, oI2) :: rK, p ∈ nwD := by rw [enD]; walk_at "mem tail"
          rw [← enD] at N19
          (try clear enD); (try clear F16); (try clear N16); (try clear F17); (try clear N17); (try clear F18); (try clear N18); (try clear SS)
          have SS := Ss2.mono hsD
          dsimp only
          k_steps
          (with_reducible rename Fr _ _ _ _ => F20)
          (with_reducible rename News _ _ _ _ => N20)
          refine outcomeT B7 F20 X7 X7 T7 N20 T7 rfl rfl (by k_room) rfl hmD (.inl SS) ?_
          intro h21 tk21 R21 t21 c21 nw21 F21 N21 hsub21 hm21
          have hs21 : ∀ p ∈ (l5, W.listOf #[v1, v2, v3, v4, v5] cf) :: (I2, oI2) :: rK, p ∈ nw21 := fun p hp => hsub21 p (hsD p hp)
          (try clear F20); (try clear N20); (try clear SS); (try clear hsub21); (try clear hsD); (try clear hmD)
          dsimp only
          k_steps
          (with_reducible rename Fr _ _ _ _ => F22)
          (with_reducible rename News _ _ _ _ => N22)
          refine out_ne (hd := "TypeError") (es := []) N22 ⟨_, [], _, _, rfl, .tail _ hm21, .nil⟩ ⟨_, [], _, _, rfl, .head _, .nil⟩ (by walk_at "units") (by walk_at "units") ?_
          k_steps
          (with_reducible rename Fr _ _ _ _ => FE)
          (with_reducible rename News _ _ _ _ => NE)
          dsimp only [JPost]
          refine' JEnd.intro _ FE NE ?hI ?hn ?ho ⟨rfl, ?h1⟩
          case hI => exact .tail _ (hs21 _ (.tail _ (.head _)))
          case hn =>
            intro p hp
            refine .tail _ (hs21 p ?_)
            rcases List.mem_cons.mp hp with rfl | hp
            · exact .head _
            · exact .tail _ (.tail _ hp)
          case ho => exact hoff2
          case h1 => exact endK hfK hgK hwK
        · obtain rfl : zk = 1 := hzk
          k_steps
          (with_reducible rename Fr _ _ _ _ => F16)
          (with_reducible rename News _ _ _ _ => N16)
          refine add_M F16 N16 (.tail _ (.head _)) (.head _) ?_ (Nat.le_of_ble_eq_true rfl)
          intro lB cB hB2 F17 N17
          dsimp only
          k_steps
          (with_reducible rename Fr _ _ _ _ => F18)
          (with_reducible rename News _ _ _ _ => N18)
          refine add_M F18 N18 (.tail _ (.head _)) (.head _) ?_ (Nat.le_of_ble_eq_true rfl)
          intro lD cD hD2 F19 N19
          have SS := Ss2.mono (nw' := _) (by walk_at "mem tail")
          refine nmN N19 ?_
          intro nwD enD
          have hmD : (lD, W.listOf #[v1, sv, v3, v4, v5] cD) ∈ nwD := by rw [enD]; exact .head _
          have hsD : ∀ p ∈ (l5, W.listOf #[v1, v2, v3, v4, v5] cf) :: (I2, oI2) :: rK, p ∈ nwD := by rw [enD]; walk_at "mem tail"
          rw [← enD] at N19
          (try clear enD); (try clear F16); (try clear N16); (try clear F17); (try clear N17); (try clear F18); (try clear N18); (try clear SS)
          have SS := Ss2.mono hsD
          dsimp only
          k_steps
          (with_reducible rename Fr _ _ _ _ => F20)
          (with_reducible rename News _ _ _ _ => N20)
          refine outcomeT B7 F20 X7 X7 T7 N20 T7 rfl rfl (by k_room) rfl hmD (.inr ⟨⟨_, i1⟩, .inl SS⟩) ?_
          intro h21 tk21 R21 t21 c21 nw21 F21 N21 hsub21 hm21
          have hs21 : ∀ p ∈ (l5, W.listOf #[v1, v2, v3, v4, v5] cf) :: (I2, oI2) :: rK, p ∈ nw21 := fun p hp => hsub21 p (hsD p hp)
          (try clear F20); (try clear N20); (try clear SS); (try clear hsub21); (try clear hsD); (try clear hmD)
          dsimp only
          k_steps
          (with_reducible rename Fr _ _ _ _ => F22)
          (with_reducible rename News _ _ _ _ => N22)
          refine out_ne (hd := "TypeError") (es := []) N22 ⟨_, [], _, _, rfl, .tail _ hm21, .nil⟩ ⟨_, [], _, _, rfl, .head _, .nil⟩ (by walk_at "units") (by walk_at "units") ?_
          k_steps
          (with_reducible rename Fr _ _ _ _ => FE)
          (with_reducible rename News _ _ _ _ => NE)
          dsimp only [JPost]
          refine' JEnd.intro _ FE NE ?hI ?hn ?ho ⟨rfl, ?h1⟩
          case hI => exact .tail _ (hs21 _ (.tail _ (.head _)))
          case hn =>
            intro p hp
            refine .tail _ (hs21 p ?_)
            rcases List.mem_cons.mp hp with rfl | hp
            · exact .head _
            · exact .tail _ (.tail _ hp)
          case ho => exact hoff2
          case h1 => exact endK hfK hgK hwK
        · obtain rfl : zk = 2 := hzk
          k_steps
          (with_reducible rename Fr _ _ _ _ => F16)
          (with_reducible rename News _ _ _ _ => N16)
          refine add_M F16 N16 (.tail _ (.head _)) (.head _) ?_ (Nat.le_of_ble_eq_true rfl)
          intro lB cB hB2 F17 N17
          dsimp only
          k_steps
          (with_reducible rename Fr _ _ _ _ => F18)
          (with_reducible rename News _ _ _ _ => N18)
          refine add_M F18 N18 (.tail _ (.head _)) (.head _) ?_ (Nat.le_of_ble_eq_true rfl)
          intro lD cD hD2 F19 N19
          have SS := Ss2.mono (nw' := _) (by walk_at "mem tail")
          refine nmN N19 ?_
          intro nwD enD
          have hmD : (lD, W.listOf #[v1, v2, sv, v4, v5] cD) ∈ nwD := by rw [enD]; exact .head _
          have hsD : ∀ p ∈ (l5, W.listOf #[v1, v2, v3, v4, v5] cf) :: (I2, oI2) :: rK, p ∈ nwD := by rw [enD]; walk_at "mem tail"
          rw [← enD] at N19
          (try clear enD); (try clear F16); (try clear N16); (try clear F17); (try clear N17); (try clear F18); (try clear N18); (try clear SS)
          have SS := Ss2.mono hsD
          dsimp only
          k_steps
          (with_reducible rename Fr _ _ _ _ => F20)
          (with_reducible rename News _ _ _ _ => N20)
          refine outcomeT B7 F20 X7 X7 T7 N20 T7 rfl rfl (by k_room) rfl hmD (.inr ⟨⟨_, i1⟩, .inr ⟨⟨_, i2⟩, .inl SS⟩⟩) ?_
          intro h21 tk21 R21 t21 c21 nw21 F21 N21 hsub21 hm21
          have hs21 : ∀ p ∈ (l5, W.listOf #[v1, v2, v3, v4, v5] cf) :: (I2, oI2) :: rK, p ∈ nw21 := fun p hp => hsub21 p (hsD p hp)
          (try clear F20); (try clear N20); (try clear SS); (try clear hsub21); (try clear hsD); (try clear hmD)
          dsimp only
          k_steps
          (with_reducible rename Fr _ _ _ _ => F22)
          (with_reducible rename News _ _ _ _ => N22)
          refine out_ne (hd := "TypeError") (es := []) N22 ⟨_, [], _, _, rfl, .tail _ hm21, .nil⟩ ⟨_, [], _, _, rfl, .head _, .nil⟩ (by walk_at "units") (by walk_at "units") ?_
          k_steps
          (with_reducible rename Fr _ _ _ _ => FE)
          (with_reducible rename News _ _ _ _ => NE)
          dsimp only [JPost]
          refine' JEnd.intro _ FE NE ?hI ?hn ?ho ⟨rfl, ?h1⟩
          case hI => exact .tail _ (hs21 _ (.tail _ (.head _)))
          case hn =>
            intro p hp
            refine .tail _ (hs21 p ?_)
            rcases List.mem_cons.mp hp with rfl | hp
            · exact .head _
            · exact .tail _ (.tail _ hp)
          case ho => exact hoff2
          case h1 => exact endK hfK hgK hwK
        · obtain rfl : zk = 3 := hzk
          k_steps
          (with_reducible rename Fr _ _ _ _ => F16)
          (with_reducible rename News _ _ _ _ => N16)
          refine add_M F16 N16 (.tail _ (.head _)) (.head _) ?_ (Nat.le_of_ble_eq_true rfl)
          intro lB cB hB2 F17 N17
          dsimp only
          k_steps
          (with_reducible rename Fr _ _ _ _ => F18)
          (with_reducible rename News _ _ _ _ => N18)
          refine add_M F18 N18 (.tail _ (.head _)) (.head _) ?_ (Nat.le_of_ble_eq_true rfl)
          intro lD cD hD2 F19 N19
          have SS := Ss2.mono (nw' := _) (by walk_at "mem tail")
          refine nmN N19 ?_
          intro nwD enD
          have hmD : (lD, W.listOf #[v1, v2, v3, sv, v5] cD) ∈ nwD := by rw [enD]; exact .head _
          have hsD : ∀ p ∈ (l5, W.listOf #[v1, v2, v3, v4, v5] cf) :: (I2, oI2) :: rK, p ∈ nwD := by rw [enD]; walk_at "mem tail"
          rw [← enD] at N19
          (try clear enD); (try clear F16); (try clear N16); (try clear F17); (try clear N17); (try clear F18); (try clear N18); (try clear SS)
          have SS := Ss2.mono hsD
          dsimp only
          k_steps
          (with_reducible rename Fr _ _ _ _ => F20)
          (with_reducible rename News _ _ _ _ => N20)
          refine outcomeT B7 F20 X7 X7 T7 N20 T7 rfl rfl (by k_room) rfl hmD (.inr ⟨⟨_, i1⟩, .inr ⟨⟨_, i2⟩, .inr ⟨⟨_, i3⟩, SS⟩⟩⟩) ?_
          intro h21 tk21 R21 t21 c21 nw21 F21 N21 hsub21 hm21
          have hs21 : ∀ p ∈ (l5, W.listOf #[v1, v2, v3, v4, v5] cf) :: (I2, oI2) :: rK, p ∈ nw21 := fun p hp => hsub21 p (hsD p hp)
          (try clear F20); (try clear N20); (try clear SS); (try clear hsub21); (try clear hsD); (try clear hmD)
          dsimp only
          k_steps
          (with_reducible rename Fr _ _ _ _ => F22)
          (with_reducible rename News _ _ _ _ => N22)
          refine out_ne (hd := "TypeError") (es := []) N22 ⟨_, [], _, _, rfl, .tail _ hm21, .nil⟩ ⟨_, [], _, _, rfl, .head _, .nil⟩ (by walk_at "units") (by walk_at "units") ?_
          k_steps
          (with_reducible rename Fr _ _ _ _ => FE)
          (with_reducible rename News _ _ _ _ => NE)
          dsimp only [JPost]
          refine' JEnd.intro _ FE NE ?hI ?hn ?ho ⟨rfl, ?h1⟩
          case hI => exact .tail _ (hs21 _ (.tail _ (.head _)))
          case hn =>
            intro p hp
            refine .tail _ (hs21 p ?_)
            rcases List.mem_cons.mp hp with rfl | hp
            · exact .head _
            · exact .tail _ (.tail _ hp)
          case ho => exact hoff2
          case h1 => exact endK hfK hgK hwK
      · rintro m2' nw2 h2 tk2 ⟨rfl, hm2⟩ F14 N14
        have em₁ := map_but3 ((hm2 "five" (by decide)).trans hfK) ((hm2 "stranger" (by decide)).trans hgK) ((hm2 "which" (by decide)).trans hwK) hm2
        rw [em₁] at F14
        clear em₁
        have hlt' := news_lt N14
        simp only [AllLt] at hlt'
        have Ks2 := Ks.mono hsK
        have hIK : (I, oI) ∈ rK := by subst erK; exact .tail _ (.tail _ (.head _))
        (try clear F13); (try clear N13); (try clear R2); (try clear hst); (try clear hsv); (try clear hS5); (try clear N12); (try clear erK)
        (try dsimp only)
        k_steps
        (with_reducible rename Fr _ _ _ _ => F16)
        (with_reducible rename News _ _ _ _ => N16)
        refine add_M F16 N16 (.tail _ (.head _)) (.head _) ?_ (Nat.le_of_ble_eq_true rfl)
        intro lO cO hO2 F17 N17
        refine nmN N17 ?_
        intro nwO enO
        have hmO : (lO, W.listOf #[v1, v2, v3, v4, sv] cO) ∈ nwO := by rw [enO]; exact .head _
        have hsO : ∀ p ∈ (l5, W.listOf #[v1, v2, v3, v4, v5] cf) :: rK, p ∈ nwO := by rw [enO]; walk_at "mem tail"
        rw [← enO] at N17
        (try clear enO); (try clear F16); (try clear N16)
        dsimp only
        k_steps
        (with_reducible rename Fr _ _ _ _ => F18)
        (with_reducible rename News _ _ _ _ => N18)
        refine outcome B7 F18 X7 X7 T7 N18 T7 rfl rfl (by k_room) rfl (by walk_at "units") hmO i1 i2 i3 i4 (Ks2.mono hsO) ?_
        intro h30 tk30 R30 nw30 F30 N30 hsub30 O30
        have hmO2 := hsub30 _ hmO
        have hs30 : ∀ p ∈ (l5, W.listOf #[v1, v2, v3, v4, v5] cf) :: rK, p ∈ nw30 := fun p hp => hsub30 p (hsO p hp)
        (try clear F18); (try clear N18); (try clear hsO); (try clear hmO); (try clear hsub30)
        dsimp only
        k_steps
        (with_reducible rename Fr _ _ _ _ => F31)
        (with_reducible rename News _ _ _ _ => N31)
        refine' due B7 F31 X7 N31 T7 ?hAf ?hff ?hkk ?hrr ?hhh ?huu ?hmm i1 i2 i3 i4 (Ks2.mono hs30) ?_
        case hAf => exact rfl
        case hff => exact rfl
        case hkk => exact rfl
        case hrr => k_room
        case hhh => exact rfl
        case huu => walk_at "units"
        case hmm => exact hmO2
        intro h32 tk32 R32 nw32 F32 N32 hsub32 O32
        refine out_ne N32 (O30.mono hsub32) O32 (by walk_at "units") (by walk_at "units") ?_
        have hs32 : ∀ p ∈ (l5, W.listOf #[v1, v2, v3, v4, v5] cf) :: rK, p ∈ nw32 := fun p hp => hsub32 p (hs30 p hp)
        (try clear O30); (try clear O32); (try clear F31); (try clear N31); (try clear Ks2); (try clear hsub32)
        dsimp only
        k_steps
        (with_reducible rename Fr _ _ _ _ => FE)
        (with_reducible rename News _ _ _ _ => NE)
        dsimp only [JPost]
        refine' JEnd.intro _ FE NE ?hI ?hn ?ho ⟨rfl, ?h1⟩
        case hI => exact hs32 _ (.tail _ hIK)
        case hn => exact fun p hp => hs32 p (hsK p hp)
        case ho => exact hoff
        case h1 =>
          intro z hz
          have hz' := hz
          simp only [List.mem_cons, List.not_mem_nil, or_false, not_or] at hz'
          simp only [List.mem_cons, List.not_mem_nil, or_false, hz'.2.2.1, hz'.2.2.2.2.2.1, hz'.2.2.2.2.2.2.1, hz'.2.2.2.2.2.2.2.1, hz'.2.2.2.2.2.2.2.2, if_false]
          exact hmK z hz
  · rintro m' nw h tk ⟨rfl, hm1⟩ F3 N3
    have em₁ := map_but _ hm1
    rw [em₁] at F3
    clear em₁
    subst em
    dsimp only [envOfC] at F3 N3
    (try dsimp only)
    k_steps)
end Mine
end
theorem PySem.Challenge.cw_km0086_03_holds : PySem.Challenge.rw_km0086_03.Holds := by
  exact Mine.law_holds
