import PyProof.Rows.All
import Wide.All
import OpenK.AllK
import Wide.FinOn
import PySem.Challenge.RW_km0086_01
set_option Elab.async false
section
open PySem PySem.W PyProof.Rows
set_option maxRecDepth 100000
set_option maxHeartbeats 8000000
namespace Mine
open_top hd for PySem.Challenge.rw_km0086_01
end Mine
#check @Mine.hd
end
section
open PySem PySem.W PyProof.Rows PySem.Calls
set_option maxRecDepth 100000
namespace Mine
section
variable {prog : Program} {w : World} {A : Around} {E : Value → Shared → Prop} {s : Shared} {env : Env} {h₀ : Heap} {x : Str} {body : List Stmt} {Q : Flow → Shared → Prop}

/-- the end of a turn: the ledger holds the iterator, and what the word speaks of -/
def JEnd (h₀ : Heap) (L : Addr) (J : (Str → Option Value) → List (Addr × Obj) → Prop) (I : Addr) (oI : Obj) (s₁ s₂ : Shared) : Prop :=
  ∃ h' tk m' news' nx, s₂ = { s₁ with heap := h', toks := tk } ∧ Fr h₀ L h' m' ∧ News h₀ L h' news' ∧ (I, oI) ∈ news' ∧ (∀ p ∈ nx, p ∈ news') ∧ (∀ p ∈ nx, p.1 ≠ I) ∧ J m' nx
def JPost (h₀ : Heap) (L : Addr) (J : (Str → Option Value) → List (Addr × Obj) → Prop) (I : Addr) (oI : Obj) (s₁ : Shared) (Q : Flow → Shared → Prop) (f : Flow) (s₂ : Shared) : Prop :=
  match f with
  | .ret v => Q (.ret v) s₂
  | .brk => Q .next s₂
  | _ => JEnd h₀ L J I oI s₁ s₂
theorem JEnd.intro {L : Addr} {J : (Str → Option Value) → List (Addr × Obj) → Prop} {m' : Str → Option Value} {I : Addr} {oI : Obj} {news' : List (Addr × Obj)} (nx : List (Addr × Obj)) {s₁ : Shared} {h' : Heap} {tk : Nat} (F : Fr h₀ L h' m') (N : News h₀ L h' news')
    (hI : (I, oI) ∈ news') (hn : ∀ p ∈ nx, p ∈ news') (ho : ∀ p ∈ nx, p.1 ≠ I) (hj : J m' nx) : JEnd h₀ L J I oI s₁ { s₁ with heap := h', toks := tk } :=
  ⟨h', tk, m', news', nx, rfl, F, N, hI, hn, ho, hj⟩

theorem j_loop {I : Addr} {fp : List Addr} {n : Nat} {P : Nat → Value → Prop} {St : Nat → Heap → Prop} {m₀ : Str → Option Value} {news : List (Addr × Obj)}
    (J : Nat → (Str → Option Value) → List (Addr × Obj) → Prop) (dep : List (Addr × Obj))
    (W : Walks prog w A I fp [I] n P St) (hI : h₀.get? I = none) (hIf : I ∈ fp) (hIo : ∀ i h, St i h → ∃ o, h.get? I = some o) (hLf : env.locals ∉ fp) (hnI : ∀ p ∈ news, p.1 ≠ I) (hst : St 0 s.heap)
    (F : Fr h₀ env.locals s.heap m₀) (N : News h₀ env.locals s.heap news) (hj : J 0 m₀ news)
    (hdep : ∀ i m nw, J i m nw → ∀ p ∈ dep, p ∈ nw) (hfp : ∀ b ∈ fp, b = I ∨ (∃ o, h₀.get? b = some o) ∨ ∃ o, (b, o) ∈ dep)
    (turn : ∀ i v m₁ nw h tk oI, i < n → P i v → J i m₁ nw → (∀ p ∈ nw, p.1 ≠ I) → Fr h₀ env.locals h (fun y => if y = x then some v else m₁ y) → News h₀ env.locals h ((I, oI) :: nw) →
      wpAny (model prog w) A (execs body env) (JPost h₀ env.locals (J (i + 1)) I oI { s with heap := h, toks := tk } Q) E { s with heap := h, toks := tk })
    (done : ∀ m' nw h tk, J n m' nw → Fr h₀ env.locals h m' → News h₀ env.locals h nw → Q .next { s with heap := h, toks := tk }) :
    LoopAtV prog w A h₀ env x body Q E (.ref I) s := by
  refine ⟨I, fp, [I], n, P, St, m₀, news, J, rfl, W, hLf, (fun b hb => by rw [List.mem_singleton.mp hb]; exact hI), (fun p hp hq => hnI p hp (List.mem_singleton.mp hq)), hst, F, N, hj, ?_, ?_⟩
  · rintro i v m₁ nw s₁ own ⟨hh', tk', rfl⟩ hin hP hJ hoff hown hget hall hst₁ F₁ N₁
    obtain ⟨oI, hoI⟩ := hIo _ _ hst₁
    have hIown : (I, oI) ∈ own := hall I hIf hI _ hoI
    have hoff' : ∀ p ∈ nw, p.1 ≠ I := fun p hp e => hoff p hp (List.mem_singleton.mpr e)
    have N₂ : News h₀ env.locals hh' ((I, oI) :: nw) := fun p hp => by
      rcases List.mem_cons.mp hp with rfl | hp
      · exact N₁ _ (List.mem_append_left _ hIown)
      · exact N₁ _ (List.mem_append_right _ hp)
    refine wpAny_mono (turn i v m₁ nw hh' tk' oI hin hP hJ hoff' F₁ N₂) (fun f s₂ p => ?_) fun _ _ e => e
    have fin : JEnd h₀ env.locals (J (i + 1)) I oI { s with heap := hh', toks := tk' } s₂ → LoopStepU h₀ env.locals [I] own (J (i + 1)) { s with heap := hh', toks := tk' } .next s₂ := by
      rintro ⟨h', tk, m', news', nx, e, F', N', hi, hn, ho, hm⟩
      refine ⟨rfl, h', tk, m', nx, e, F', fun p hp => ?_, fun p hp hq => ho p hp (List.mem_singleton.mp hq), hm⟩
      rcases List.mem_append.mp hp with hp | hp
      · have h2 : hh'.get? p.1 = some p.2 := hget p hp
        rcases hfp p.1 (hown p hp) with h1 | ⟨o, h1⟩ | ⟨o, h1⟩
        · have h3 : p = (I, oI) := by
            rw [h1] at h2
            exact Prod.ext h1 (Option.some.inj (h2.symm.trans hoI))
          rw [h3]; exact N' _ hi
        · have := (N₁ p (List.mem_append_left _ hp)).2.2
          rw [h1] at this; cases this
        · have h4 := hdep _ _ _ hJ _ h1
          have h5 := (N₂ _ (List.mem_cons_of_mem _ h4)).1
          have h3 : p = (p.1, o) := Prod.ext rfl (Option.some.inj (h2.symm.trans h5))
          rw [h3]
          exact N' _ (hn _ (hdep _ _ _ hm _ h1))
      · exact N' _ (hn p hp)
    cases f with
    | ret v => exact .ret p
    | brk => exact .brk p
    | next => exact .next (fin p)
    | cont => exact .cont (fin p)
  · rintro h' tk m' news' F' N' _ hJ
    exact done m' news' h' tk hJ F' N'

theorem j_range {r : Addr} {a₀ b₀ c : Int} {t₀ u₀ v₀ : Tok} {m₀ : Str → Option Value} {news : List (Addr × Obj)} (n : Nat)
    (J : Nat → (Str → Option Value) → List (Addr × Obj) → Prop)
    (hh : A.handled = none) (hr : IsRange s.heap r a₀ b₀ c t₀ u₀ v₀) (hsmall : Builtin.Range.small a₀ b₀ c = true) (hn : Builtin.Range.rangeSize a₀ b₀ c = (n : Int))
    (F : Fr h₀ env.locals s.heap m₀) (N : News h₀ env.locals s.heap news) (hj : J 0 m₀ news)
    (turn : ∀ i t m₁ nw h tk I oI, i < n → J i m₁ nw → (∀ p ∈ nw, p.1 ≠ I) → Fr h₀ env.locals h (fun y => if y = x then some (.int (a₀ + (i : Int) * c) t) else m₁ y) → News h₀ env.locals h ((I, oI) :: nw) →
      wpAny (model prog w) A (execs body env) (JPost h₀ env.locals (J (i + 1)) I oI { s with heap := h, toks := tk } Q) E { s with heap := h, toks := tk })
    (done : ∀ m' nw h tk, J n m' nw → Fr h₀ env.locals h m' → News h₀ env.locals h nw → Q .next { s with heap := h, toks := tk }) :
    wpAny (model prog w) A (pyIter (.ref r)) (fun it s₂ => LoopAtV prog w A h₀ env x body Q E it s₂) E s := by
  refine wpAny_pyIter_range hr hsmall ?_
  have hnew := next_is_new F
  refine j_loop J [] (Walks.range hh _ a₀ c n) hnew (List.mem_singleton.mpr rfl) (fun i h st => ⟨_, st⟩) ?_ ?_ (by show IsRangeIter _ _ _ _ _; rw [hn]; simpa using Heap.get?_push_size _ rfl) (F.push _) (fun p hp => ⟨Heap.get?_push_of_some _ (N p hp).1, (N p hp).2⟩) hj
    (fun _ _ _ _ p hp => nomatch hp) (fun b hb => .inl (List.mem_singleton.mp hb)) ?_ done
  · intro hm
    exact absurd F.ns.lt ((List.mem_singleton.mp hm) ▸ Nat.lt_irrefl _)
  · intro p hp hI
    exact absurd (Heap.lt_size (N p hp).1) (hI ▸ Nat.lt_irrefl _)
  · rintro i v m₁ nw h tk oI hin ⟨t, rfl⟩ hJ hoff F₁ N₁
    exact turn i t m₁ nw h tk _ oI hin hJ hoff F₁ N₁

theorem j_list {l : Addr} {items : Array Value} {c : Nat} {m₀ : Str → Option Value} {news : List (Addr × Obj)}
    (J : Nat → (Str → Option Value) → List (Addr × Obj) → Prop)
    (hh : A.handled = none) (hl : ∀ i m nw, J i m nw → (l, listOf items c) ∈ nw)
    (F : Fr h₀ env.locals s.heap m₀) (N : News h₀ env.locals s.heap news) (hj : J 0 m₀ news)
    (turn : ∀ i v m₁ nw h tk I oI, i < items.size → items[i]? = some v → J i m₁ nw → (∀ p ∈ nw, p.1 ≠ I) → Fr h₀ env.locals h (fun y => if y = x then some v else m₁ y) → News h₀ env.locals h ((I, oI) :: nw) →
      wpAny (model prog w) A (execs body env) (JPost h₀ env.locals (J (i + 1)) I oI { s with heap := h, toks := tk } Q) E { s with heap := h, toks := tk })
    (done : ∀ m' nw h tk, J items.size m' nw → Fr h₀ env.locals h m' → News h₀ env.locals h nw → Q .next { s with heap := h, toks := tk }) :
    wpAny (model prog w) A (pyIter (.ref l)) (fun it s₂ => LoopAtV prog w A h₀ env x body Q E it s₂) E s := by
  have hm := hl _ _ _ hj
  have hls : s.heap.IsList l items := ⟨_, (N _ hm).1, rfl, c, rfl⟩
  have hlt : l < s.heap.objs.size := Heap.lt_size (N _ hm).1
  refine wpAny_pyIter_list hls ?_
  have hnew := next_is_new F
  refine j_loop J [(l, listOf items c)] (Walks.list hh _ l (Nat.ne_of_lt hlt) items) hnew (by simp) (fun i h st => let ⟨⟨o, ho, _⟩, _⟩ := st; ⟨o, ho⟩) ?_ ?_ ⟨⟨_, Heap.get?_push_size _ rfl, rfl, rfl⟩, hls.at fun o e => Heap.get?_push_of_some _ e⟩ (F.push _) (fun p hp => ⟨Heap.get?_push_of_some _ (N p hp).1, (N p hp).2⟩) hj
    (fun _ _ _ q p hp => by rw [List.mem_singleton.mp hp]; exact hl _ _ _ q) (fun b hb => ?_) ?_ done
  · intro hm'
    rcases List.mem_cons.mp hm' with e | e
    · exact absurd F.ns.lt (e ▸ Nat.lt_irrefl _)
    · exact (N _ hm).2.1 (List.mem_singleton.mp e).symm
  · intro p hp hI
    exact absurd (Heap.lt_size (N p hp).1) (hI ▸ Nat.lt_irrefl _)
  · rcases List.mem_cons.mp hb with e | e
    · exact .inl e
    · exact .inr (.inr ⟨_, by rw [List.mem_singleton.mp e]; exact .head _⟩)
  · rintro i v m₁ nw h tk oI hin hP hJ hoff F₁ N₁
    exact turn i v m₁ nw h tk _ oI hin hP hJ hoff F₁ N₁
end
/-- names that may have been turned: their values are forgotten -/
theorem map_but (ys : List Str) {m m₀ : Str → Option Value} (h : ∀ z, z ∉ ys → m z = m₀ z) : m = fun z => if z ∈ ys then m z else m₀ z := by
  funext z; by_cases hz : z ∈ ys
  · simp only [if_pos hz]
  · simp only [if_neg hz]; exact h z hz
theorem map_at {y : Str} {v : Option Value} {m : Str → Option Value} (h : m y = v) : m = fun z => if z = y then v else m z := by
  funext z; by_cases hz : z = y
  · simp only [if_pos hz]; rw [hz]; exact h
  · simp only [if_neg hz]

theorem nm1 {h₀ h : Heap} {L a : Addr} {oa : Obj} {r : List (Addr × Obj)} (_ : News h₀ L h ((a, oa) :: r)) {P : Prop} (k : ∀ a', a' = a → P) : P := k a rfl
theorem nm2 {h₀ h : Heap} {L a b : Addr} {oa ob : Obj} {r : List (Addr × Obj)} (_ : News h₀ L h ((a, oa) :: (b, ob) :: r)) {P : Prop} (k : ∀ a' b', a' = a → b' = b → P) : P := k a b rfl rfl
theorem nm3 {h₀ h : Heap} {L a b c : Addr} {oa ob oc : Obj} {r : List (Addr × Obj)} (_ : News h₀ L h ((a, oa) :: (b, ob) :: (c, oc) :: r)) {P : Prop} (k : ∀ a' b' c', a' = a → b' = b → c' = c → P) : P := k a b c rfl rfl rfl
theorem nm1o {h₀ h : Heap} {L a : Addr} {oa : Obj} {r : List (Addr × Obj)} (_ : News h₀ L h ((a, oa) :: r)) {P : Prop} (k : ∀ a' o', a' = a → o' = oa → P) : P := k a oa rfl rfl
theorem nm4 {h₀ h : Heap} {L d : Addr} {a b c : Addr × Obj} {od : Obj} {r : List (Addr × Obj)} (_ : News h₀ L h (a :: b :: c :: (d, od) :: r)) {P : Prop} (k : ∀ d', d' = d → P) : P := k d rfl
theorem news_cons2 {h₀ h : Heap} {L : Addr} {a : Addr} {o : Obj} {nw : List (Addr × Obj)} (hx : h.get? a = some o ∧ a ≠ L ∧ h₀.get? a = none) (N : News h₀ L h nw) : News h₀ L h ((a, o) :: nw) := fun p hp => by
  rcases List.mem_cons.mp hp with rfl | hp
  · exact hx
  · exact N _ hp
theorem nmF {h₀ h : Heap} {L : Addr} {m : Str → Option Value} (_ : Fr h₀ L h m) {P : Prop} (k : ∀ m', m' = m → P) : P := k m rfl
theorem nmT {h₀ h : Heap} {L : Addr} {x : Addr × Obj} {r : List (Addr × Obj)} (_ : News h₀ L h (x :: r)) {P : Prop} (k : ∀ r', r' = r → P) : P := k r rfl
theorem nmN {h₀ h : Heap} {L : Addr} {r : List (Addr × Obj)} (_ : News h₀ L h r) {P : Prop} (k : ∀ r', r' = r → P) : P := k r rfl

def AllNe (I : Addr) : List (Addr × Obj) → Prop
  | [] => True
  | p :: r => @Ne Nat p.1 I ∧ AllNe I r
theorem allNe_of {I : Addr} : ∀ {l : List (Addr × Obj)}, (∀ p ∈ l, p.1 ≠ I) → AllNe I l
  | [], _ => trivial
  | p :: _, h => ⟨h p (.head _), allNe_of fun q hq => h q (.tail _ hq)⟩
theorem news_lt {h₀ h : Heap} {L : Addr} {news : List (Addr × Obj)} (N : News h₀ L h news) : AllLt h.objs.size news := allLt_of fun p hp => Heap.lt_size (N p hp).1

section
variable {prog : Program} {w : World} {A : Around} {E : Value → Shared → Prop} {s : Shared} {env : Env} {h₀ : Heap} {target : Expr} {body : List Stmt} {Q : Flow → Shared → Prop}
def JPostT (h₀ : Heap) (L : Addr) (J : (Str → Option Value) → List (Addr × Obj) → Prop) (I : Addr) (oI : Obj) (s₁ : Shared) (f : Flow) (s₂ : Shared) : Prop := f = .next ∧ JEnd h₀ L J I oI s₁ s₂
theorem j_loopT {I : Addr} {fp : List Addr} {n : Nat} {P : Nat → Value → Prop} {St : Nat → Heap → Prop} {m₀ : Str → Option Value} {news : List (Addr × Obj)}
    (J : Nat → (Str → Option Value) → List (Addr × Obj) → Prop) (dep : List (Addr × Obj))
    (W : Walks prog w A I fp [I] n P St) (hI : h₀.get? I = none) (hIf : I ∈ fp) (hIo : ∀ i h, St i h → ∃ o, h.get? I = some o) (hLf : env.locals ∉ fp) (hnI : ∀ p ∈ news, p.1 ≠ I) (hst : St 0 s.heap)
    (F : Fr h₀ env.locals s.heap m₀) (N : News h₀ env.locals s.heap news)
    (hgo : ∀ i (s' : Shared) v (Q' : Unit → Shared → Prop), St i s'.heap → Q' () s' → wpAny (model prog w) A (letOwnedTupleGo target (.ref I) v) Q' E s') (hj : J 0 m₀ news)
    (hdep : ∀ i m nw, J i m nw → ∀ p ∈ dep, p ∈ nw) (hfp : ∀ b ∈ fp, b = I ∨ (∃ o, h₀.get? b = some o) ∨ ∃ o, (b, o) ∈ dep)
    (turn : ∀ i v m₁ nw s₁ oI, i < n → P i v → J i m₁ nw → (∀ p ∈ nw, p.1 ≠ I) → Fr h₀ env.locals s₁.heap m₁ → News h₀ env.locals s₁.heap ((I, oI) :: nw) →
      wpAny (model prog w) A (assign target env v) (fun _ s₃ => wpAny (model prog w) A (execs body env) (JPostT h₀ env.locals (J (i + 1)) I oI s₁) E s₃) E s₁)
    (done : ∀ m' nw h tk, J n m' nw → Fr h₀ env.locals h m' → News h₀ env.locals h nw → Q .next { s with heap := h, toks := tk }) :
    LoopAtT prog w A h₀ env target body Q E (.ref I) s := by
  refine ⟨I, fp, [I], n, P, St, m₀, news, J, rfl, W, hLf, (fun b hb => by rw [List.mem_singleton.mp hb]; exact hI), (fun p hp hq => hnI p hp (List.mem_singleton.mp hq)), hst, F, N, hgo, hj, ?_, ?_⟩
  · rintro i v m₁ nw s₁ own hin hP hJ hoff hown hget hall hst₁ F₁ N₁
    obtain ⟨oI, hoI⟩ := hIo _ _ hst₁
    have hIown : (I, oI) ∈ own := hall I hIf hI _ hoI
    have hoff' : ∀ p ∈ nw, p.1 ≠ I := fun p hp e => hoff p hp (List.mem_singleton.mpr e)
    have N₂ : News h₀ env.locals s₁.heap ((I, oI) :: nw) := fun p hp => by
      rcases List.mem_cons.mp hp with rfl | hp
      · exact N₁ _ (List.mem_append_left _ hIown)
      · exact N₁ _ (List.mem_append_right _ hp)
    refine wpAny_mono (turn i v m₁ nw s₁ oI hin hP hJ hoff' F₁ N₂) (fun _ s₃ h₃ => wpAny_mono h₃ (fun f s₂ p => ?_) fun _ _ e => e) fun _ _ e => e
    obtain ⟨rfl, h', tk, m', news', nx, e, F', N', hi, hn, ho, hm⟩ := p
    refine ⟨rfl, h', tk, m', nx, e, F', fun p hp => ?_, fun p hp hq => ho p hp (List.mem_singleton.mp hq), hm⟩
    rcases List.mem_append.mp hp with hp | hp
    · have h2 : s₁.heap.get? p.1 = some p.2 := hget p hp
      rcases hfp p.1 (hown p hp) with h1 | ⟨o, h1⟩ | ⟨o, h1⟩
      · have h3 : p = (I, oI) := by
          rw [h1] at h2
          exact Prod.ext h1 (Option.some.inj (h2.symm.trans hoI))
        rw [h3]; exact N' _ hi
      · have := (N₁ p (List.mem_append_left _ hp)).2.2
        rw [h1] at this; cases this
      · have h4 := hdep _ _ _ hJ _ h1
        have h5 := (N₂ _ (List.mem_cons_of_mem _ h4)).1
        have h3 : p = (p.1, o) := Prod.ext rfl (Option.some.inj (h2.symm.trans h5))
        rw [h3]
        exact N' _ (hn _ (hdep _ _ _ hm _ h1))
    · exact N' _ (hn p hp)
  · rintro h' tk m' news' F' N' _ hJ
    exact done m' news' h' tk hJ F' N'

theorem j_listT {l : Addr} {items : Array Value} {c : Nat} {m₀ : Str → Option Value} {news : List (Addr × Obj)}
    (J : Nat → (Str → Option Value) → List (Addr × Obj) → Prop)
    (hh : A.handled = none) (hl : ∀ i m nw, J i m nw → (l, listOf items c) ∈ nw)
    (F : Fr h₀ env.locals s.heap m₀) (N : News h₀ env.locals s.heap news) (hj : J 0 m₀ news)
    (turn : ∀ i v m₁ nw s₁ I oI, i < items.size → items[i]? = some v → J i m₁ nw → (∀ p ∈ nw, p.1 ≠ I) → Fr h₀ env.locals s₁.heap m₁ → News h₀ env.locals s₁.heap ((I, oI) :: nw) →
      wpAny (model prog w) A (assign target env v) (fun _ s₃ => wpAny (model prog w) A (execs body env) (JPostT h₀ env.locals (J (i + 1)) I oI s₁) E s₃) E s₁)
    (done : ∀ m' nw h tk, J items.size m' nw → Fr h₀ env.locals h m' → News h₀ env.locals h nw → Q .next { s with heap := h, toks := tk }) :
    wpAny (model prog w) A (pyIter (.ref l)) (fun it s₂ => LoopAtT prog w A h₀ env target body Q E it s₂) E s := by
  have hm := hl _ _ _ hj
  have hls : s.heap.IsList l items := ⟨_, (N _ hm).1, rfl, c, rfl⟩
  have hlt : l < s.heap.objs.size := Heap.lt_size (N _ hm).1
  refine wpAny_pyIter_list hls ?_
  have hnew := next_is_new F
  refine j_loopT J [(l, listOf items c)] (Walks.list hh _ l (Nat.ne_of_lt hlt) items) hnew (by simp) (fun i h st => let ⟨⟨o, ho, _⟩, _⟩ := st; ⟨o, ho⟩) ?_ ?_ ⟨⟨_, Heap.get?_push_size _ rfl, rfl, rfl⟩, hls.at fun o e => Heap.get?_push_of_some _ e⟩ (F.push _) (fun p hp => ⟨Heap.get?_push_of_some _ (N p hp).1, (N p hp).2⟩) (fun i s' v Q' st hQ' => letGo_listiter st.1 hQ') hj
    (fun _ _ _ q p hp => by rw [List.mem_singleton.mp hp]; exact hl _ _ _ q) (fun b hb => ?_) ?_ done
  · intro hm'
    rcases List.mem_cons.mp hm' with e | e
    · exact absurd F.ns.lt (e ▸ Nat.lt_irrefl _)
    · exact (N _ hm).2.1 (List.mem_singleton.mp e).symm
  · intro p hp hI
    exact absurd (Heap.lt_size (N p hp).1) (hI ▸ Nat.lt_irrefl _)
  · rcases List.mem_cons.mp hb with e | e
    · exact .inl e
    · exact .inr (.inr ⟨_, by rw [List.mem_singleton.mp e]; exact .head _⟩)
  · rintro i v m₁ nw s₁ oI hin hP hJ hoff F₁ N₁
    exact turn i v m₁ nw s₁ _ oI hin hP hJ hoff F₁ N₁
end
theorem news_cons {h₀ h : Heap} {L : Addr} {x : Addr × Obj} {nw : List (Addr × Obj)} (N : News h₀ L h nw) (hx : x ∈ nw) : News h₀ L h (x :: nw) := fun p hp => by
  rcases List.mem_cons.mp hp with rfl | hp
  · exact N _ hx
  · exact N _ hp
theorem news_sub {h₀ h : Heap} {L : Addr} {nw nw' : List (Addr × Obj)} (N : News h₀ L h nw) (hs : ∀ p ∈ nw', p ∈ nw) : News h₀ L h nw' := fun p hp => N p (hs p hp)
end Mine
end
section
open PySem PySem.W PyProof.Rows PySem.Calls
namespace Mine
theorem kind_ix : builtinKind "_operator.index" = none := by decide +kernel
theorem plain_ix : plainId "_operator.index" = true := by decide +kernel
theorem entry_ix : entryFor table "_operator.index" = some Builtin.«_operator.index» := entryFor_of_fast (by kernel_rfl)
theorem args_ix (v : Value) : argsOk "_operator.index" ⟨[v], []⟩ := by unfold argsOk; kernel_rfl
section
variable {prog : Program} {w : World} {A : Around} {E : Value → Shared → Prop} {s : Shared}
theorem call_index_int {a : Int} {t : Tok} {Q : Value → Shared → Prop} (h : Q (.int a t) s) :
    wpAny (model prog w) A (call (.builtin "_operator.index") [.int a t]) Q E s := by
  refine call_function_entry kind_ix plain_ix entry_ix (args_ix _) ?_
  unfold Builtin.«_operator.index»
  exact wpAny_bind (wpAny_pure (wpAny_bind (wpAny_pure (wpAny_pure ⟨_, rfl, h⟩))))
end
end Mine
end
section
open PySem PySem.W PyProof.Rows PySem.Calls
set_option maxRecDepth 100000
namespace Mine
section
variable {prog : Program} {w : World} {A : Around} {E : Value → Shared → Prop} {s : Shared} {h₀ : Heap} {L t : Addr} {m : Str → Option Value} {news : List (Addr × Obj)}
/-- the sum of a list of ints of the ledger, of any length and size -/
theorem sum_led {items : Array Value} {c : Nat} {ns : List Int} {Q : Value → Shared → Prop} (hh : A.handled = none) (F : Fr h₀ L s.heap m) (N : News h₀ L s.heap news) (hm : (t, W.listOf items c) ∈ news) (hi : IntsAre items.toList ns)
    (h : ∀ h' tk t', Fr h₀ L h' m → News h₀ L h' news → Q (.int ns.sum t') { s with heap := h', toks := tk }) :
    wpAny (model prog w) A (call (.builtin "sum") [.ref t]) Q E s := by
  have hl : s.heap.IsList t items := ⟨_, (N _ hm).1, rfl, c, rfl⟩
  have ha : AllInts items := by have := hi.allInts; simpa using this
  obtain ⟨xs, hx⟩ := ha.items
  have hn : numsOf items.toList = ns := hi.numsOf
  rw [hx] at hl hn
  rw [nums_intItems] at hn
  refine sum_intListG hh hl fun h' tk t' hk => ?_
  have := h h' tk t' (F.keeps hk) (N.grown hk)
  rw [preSum_eq, List.take_of_length_le (by simp), hn]
  exact this
end
theorem news_uniq {h₀ h : Heap} {L a : Addr} {o o' : Obj} {nw : List (Addr × Obj)} (N : News h₀ L h nw) (h1 : (a, o) ∈ nw) (h2 : (a, o') ∈ nw) : o = o' :=
  Option.some.inj ((N _ h1).1.symm.trans (N _ h2).1)
theorem listOf_inj {a b : Array Value} {c d : Nat} (h : W.listOf a c = W.listOf b d) : a = b := by
  simp only [W.listOf, Obj.mk.injEq, Data.seq.injEq] at h
  exact h.2.2.1.1
theorem ints5 {vs : List Value} {a b c d e : Int} (h : IntsAre vs [a, b, c, d, e]) : ∃ t1 t2 t3 t4 t5, vs = [.int a t1, .int b t2, .int c t3, .int d t4, .int e t5] := by
  obtain ⟨t1, v1, e1, h1⟩ := h.cons_inv
  obtain ⟨t2, v2, e2, h2⟩ := h1.cons_inv
  obtain ⟨t3, v3, e3, h3⟩ := h2.cons_inv
  obtain ⟨t4, v4, e4, h4⟩ := h3.cons_inv
  obtain ⟨t5, v5, e5, h5⟩ := h4.cons_inv
  have e6 := h5.nil_inv
  subst e6 e5 e4 e3 e2 e1
  exact ⟨_, _, _, _, _, rfl⟩
theorem ints6 {vs : List Value} {a b c d e f : Int} (h : IntsAre vs [a, b, c, d, e, f]) : ∃ t1 t2 t3 t4 t5 t6, vs = [.int a t1, .int b t2, .int c t3, .int d t4, .int e t5, .int f t6] := by
  obtain ⟨t1, v1, e1, h1⟩ := h.cons_inv
  obtain ⟨t2, t3, t4, t5, t6, e2⟩ := ints5 h1
  subst e2 e1
  exact ⟨_, _, _, _, _, _, rfl⟩
theorem len6 {ns : List Int} (h : ns.length = 6) : ∃ a b c d e f, ns = [a, b, c, d, e, f] := by
  rcases ns with _ | ⟨a, _ | ⟨b, _ | ⟨c, _ | ⟨d, _ | ⟨e, _ | ⟨f, _ | ⟨g, r⟩⟩⟩⟩⟩⟩⟩ <;> simp only [List.length_cons, List.length_nil] at h <;> first | omega | exact ⟨_, _, _, _, _, _, rfl⟩
theorem len5 {ns : List Int} (h : ns.length = 5) : ∃ a b c d e, ns = [a, b, c, d, e] := by
  rcases ns with _ | ⟨a, _ | ⟨b, _ | ⟨c, _ | ⟨d, _ | ⟨e, _ | ⟨f, r⟩⟩⟩⟩⟩⟩ <;> simp only [List.length_cons, List.length_nil] at h <;> first | omega | exact ⟨_, _, _, _, _, rfl⟩
theorem led_split {h₀ h : Heap} {L t : Addr} {o : Obj} {nw : List (Addr × Obj)} (N : News h₀ L h nw) (hm : (t, o) ∈ nw) : ∃ rest, News h₀ L h ((t, o) :: rest) ∧ (∀ p ∈ rest, p.1 ≠ t) ∧ (∀ p ∈ nw, p.1 ≠ t → p ∈ rest) :=
  ⟨nw.filter fun p => decide (p.1 ≠ t), fun p hp => by
    rcases List.mem_cons.mp hp with rfl | hp
    · exact N _ hm
    · exact N _ (List.mem_filter.mp hp).1, fun p hp => of_decide_eq_true (List.mem_filter.mp hp).2, fun p hp hq => List.mem_filter.mpr ⟨hp, decide_eq_true hq⟩⟩
section
open PySem.SeqAt
variable {prog : Program} {w : World} {A : Around} {E : Value → Shared → Prop} {s : Shared} {h₀ : Heap} {L : Addr} {m : Str → Option Value} {news : List (Addr × Obj)}
theorem isStrOf_at (k : Str) : ∀ {vs : List Value} {ys : List Str}, StrsAre vs ys → ∀ (j : Nat) (h1 : j < vs.length) (h2 : j < ys.length), isStrOf k vs[j] = (ys[j] == k)
  | _, _, .cons n t _, 0, _, _ => rfl
  | _, _, .cons n t r, j + 1, h1, h2 => isStrOf_at k r j (Nat.lt_of_succ_lt_succ h1) (Nat.lt_of_succ_lt_succ h2)
theorem strsLen : ∀ {vs : List Value} {ys : List Str}, StrsAre vs ys → vs.length = ys.length
  | _, _, .nil => rfl
  | _, _, .cons _ _ r => by simp [strsLen r]
/-- the place of a text in a list of texts -/
theorem index_list_strs {l : Addr} {vs : List Value} {ys : List Str} {k : Str} {t : Tok} {Q : Value → Shared → Prop} (j : Nat) (hl : s.heap.IsList l vs.toArray) (hi : StrsAre vs ys)
    (hsz : vs.length ≤ 1000) (hk : ys[j]? = some k) (hno : (ys.take j).all (fun y => !(y == k)) = true) (h : Q (.int (j : Nat) s.toks) { s with toks := s.toks + 1 }) :
    wpAny (model prog w) A (call (.builtin "list.index") [.ref l, .str k t]) Q E s := by
  obtain ⟨⟨cls, dd, data, sl⟩, ho, hc, n, hd⟩ := id hl
  simp only at hc hd
  subst hc hd
  have hlen := strsLen hi
  obtain ⟨hj, hjk⟩ := List.getElem?_eq_some_iff.mp hk
  refine call_meets PySem.F.slot_list_index ⟨_, ho, rfl⟩ PySem.F.entry_list_index (PySem.F.args_list_index_2 _ _)
    (list_indexAt l vs.toArray n dd sl (.str k t) (isStrOf k) j (by simpa [hlen] using hj) (by omega) ?_ ?_) ⟨ho, fun y hy => (eq_isStrOf k t hi y (by simpa using hy)).at _ _, h⟩
  · show isStrOf k vs[j] = true
    rw [isStrOf_at k hi _ (by omega) hj, hjk]; simp
  · intro i his hlt
    show isStrOf k vs[i] = false
    rw [isStrOf_at k hi i (by simpa using his) (by omega)]
    have := List.all_eq_true.mp hno (ys[i]'(by omega)) (by
      rw [List.mem_take_iff_getElem]
      exact ⟨i, by omega, rfl⟩)
    simpa using this
theorem len_got2 {nA : List (Addr × Obj)} {e t : Addr} {cls v1 v2 : Value} {Q : Value → Shared → Prop} (N : News h₀ L s.heap nA) (G : Got nA e t cls [v1, v2]) (h : Q (.int 2 (s.toks + 1)) { s with toks := s.toks + 1 + 1 }) :
    wpAny (model prog w) A (call (.builtin "len") [.ref t]) Q E s := len_tuple (Got.isTup N G) (by simp) h
end
end Mine
end
section
namespace Mine
def bad5 (a b c d e : Int) : Nat := if ¬ (0 ≤ a ∧ a ≤ 23) then 0 else if ¬ (0 ≤ b ∧ b ≤ 59) then 1 else if ¬ (0 ≤ c ∧ c ≤ 59) then 2 else if ¬ (0 ≤ d ∧ d ≤ 999999) then 3 else if ¬ (e = 0 ∨ e = 1) then 4 else 5
def bad5L : List Int → Nat
  | [a, b, c, d, e] => bad5 a b c d e
  | _ => 5
def sz : Nat → Int
  | 0 => 24
  | 1 => 60
  | 2 => 60
  | 3 => 1000000
  | _ => 2
def casc : Nat → Int → Int → List (Nat × Int)
  | 0, _, _ => []
  | p + 1, old, new => if old / sz p = new / sz p then [] else (p, old % sz p + new - old) :: casc p (old / sz p) (new / sz p)
theorem casc_len : ∀ (p : Nat) (o n : Int), (casc p o n).length ≤ p
  | 0, _, _ => Nat.le_refl _
  | p + 1, o, n => by
    unfold casc
    split
    · exact Nat.zero_le _
    · exact Nat.succ_le_succ (casc_len p _ _)
/-- one refusal mended -/
def mend : List Int → Nat → List Int
  | [a, b, c, d, e], 0 => [a - a / 24 * 24, b, c, d, e]
  | [a, b, c, d, e], 1 => [a + b / 60, b - b / 60 * 60, c, d, e]
  | [a, b, c, d, e], 2 => [a, b + c / 60, c - c / 60 * 60, d, e]
  | [a, b, c, d, e], 3 => [a, b, c + d / 1000000, d - d / 1000000 * 1000000, e]
  | [a, b, c, d, e], 4 => [a, b, c, d + e / 2, e - e / 2 * 2]
  | l, _ => l
inductive Steps : List Int → List (Nat × Int) → List Int → Prop
  | nil (F : List Int) : Steps F [] F
  | cons {F F' : List Int} {p : Nat} {x : Int} {L : List (Nat × Int)} (h1 : bad5L F = p) (h2 : p < 5) (h3 : F[p]? = some x) (h : Steps (mend F p) L F') : Steps F ((p, x) :: L) F'
theorem Steps.append {F G H : List Int} {L M : List (Nat × Int)} (h : Steps F L G) (k : Steps G M H) : Steps F (L ++ M) H := by
  induction h with
  | nil F => exact k
  | cons h1 h2 h3 _ ih => exact .cons h1 h2 h3 (ih k)
theorem casc0 (o t b c d e : Int) : Steps [o % 24 + t, b, c, d, e] (casc 1 o (o + t)) [(o + t) % 24, b, c, d, e] := by
  unfold casc
  show Steps _ (if o / 24 = (o + t) / 24 then _ else (0, o % 24 + (o + t) - o) :: []) _
  split
  · rw [show o % 24 + t = (o + t) % 24 by omega]
    exact .nil _
  · rw [show o % 24 + (o + t) - o = o % 24 + t by omega]
    refine .cons ?_ (by decide) rfl ?_
    · show bad5 _ _ _ _ _ = 0
      unfold bad5
      rw [if_pos (by omega)]
    · show Steps [o % 24 + t - (o % 24 + t) / 24 * 24, b, c, d, e] [] _
      rw [show o % 24 + t - (o % 24 + t) / 24 * 24 = (o + t) % 24 by omega]
      exact .nil _
theorem casc1 (o t c d e : Int) : Steps [o / 60 % 24, o % 60 + t, c, d, e] (casc 2 o (o + t)) [(o + t) / 60 % 24, (o + t) % 60, c, d, e] := by
  unfold casc
  show Steps _ (if o / 60 = (o + t) / 60 then _ else (1, o % 60 + (o + t) - o) :: casc 1 (o / 60) ((o + t) / 60)) _
  split
  · rename_i h
    rw [show o % 60 + t = (o + t) % 60 by omega, h]
    exact .nil _
  · rw [show o % 60 + (o + t) - o = o % 60 + t by omega]
    refine .cons ?_ (by decide) rfl ?_
    · show bad5 _ _ _ _ _ = 1
      unfold bad5
      rw [if_neg (by omega), if_pos (by omega)]
    · show Steps [o / 60 % 24 + (o % 60 + t) / 60, o % 60 + t - (o % 60 + t) / 60 * 60, c, d, e] _ _
      have k := casc0 (o / 60) ((o % 60 + t) / 60) ((o + t) % 60) c d e
      rw [show o / 60 + (o % 60 + t) / 60 = (o + t) / 60 by omega] at k
      rw [show o % 60 + t - (o % 60 + t) / 60 * 60 = (o + t) % 60 by omega]
      exact k
theorem casc2 (o t d e : Int) : Steps [o / 60 / 60 % 24, o / 60 % 60, o % 60 + t, d, e] (casc 3 o (o + t)) [(o + t) / 60 / 60 % 24, (o + t) / 60 % 60, (o + t) % 60, d, e] := by
  unfold casc
  show Steps _ (if o / 60 = (o + t) / 60 then _ else (2, o % 60 + (o + t) - o) :: casc 2 (o / 60) ((o + t) / 60)) _
  split
  · rename_i h
    rw [show o % 60 + t = (o + t) % 60 by omega, h]
    exact .nil _
  · rw [show o % 60 + (o + t) - o = o % 60 + t by omega]
    refine .cons ?_ (by decide) rfl ?_
    · show bad5 _ _ _ _ _ = 2
      unfold bad5
      rw [if_neg (by omega), if_neg (by omega), if_pos (by omega)]
    · show Steps [o / 60 / 60 % 24, o / 60 % 60 + (o % 60 + t) / 60, o % 60 + t - (o % 60 + t) / 60 * 60, d, e] _ _
      have k := casc1 (o / 60) ((o % 60 + t) / 60) ((o + t) % 60) d e
      rw [show o / 60 + (o % 60 + t) / 60 = (o + t) / 60 by omega] at k
      rw [show o % 60 + t - (o % 60 + t) / 60 * 60 = (o + t) % 60 by omega]
      exact k
theorem casc3 (o t e : Int) : Steps [o / 1000000 / 60 / 60 % 24, o / 1000000 / 60 % 60, o / 1000000 % 60, o % 1000000 + t, e] (casc 4 o (o + t)) [(o + t) / 1000000 / 60 / 60 % 24, (o + t) / 1000000 / 60 % 60, (o + t) / 1000000 % 60, (o + t) % 1000000, e] := by
  unfold casc
  show Steps _ (if o / 1000000 = (o + t) / 1000000 then _ else (3, o % 1000000 + (o + t) - o) :: casc 3 (o / 1000000) ((o + t) / 1000000)) _
  split
  · rename_i h
    rw [show o % 1000000 + t = (o + t) % 1000000 by omega, h]
    exact .nil _
  · rw [show o % 1000000 + (o + t) - o = o % 1000000 + t by omega]
    refine .cons ?_ (by decide) rfl ?_
    · show bad5 _ _ _ _ _ = 3
      unfold bad5
      rw [if_neg (by omega), if_neg (by omega), if_neg (by omega), if_pos (by omega)]
    · show Steps [o / 1000000 / 60 / 60 % 24, o / 1000000 / 60 % 60, o / 1000000 % 60 + (o % 1000000 + t) / 1000000, o % 1000000 + t - (o % 1000000 + t) / 1000000 * 1000000, e] _ _
      have k := casc2 (o / 1000000) ((o % 1000000 + t) / 1000000) ((o + t) % 1000000) e
      rw [show o / 1000000 + (o % 1000000 + t) / 1000000 = (o + t) / 1000000 by omega] at k
      rw [show o % 1000000 + t - (o % 1000000 + t) / 1000000 * 1000000 = (o + t) % 1000000 by omega]
      exact k
theorem casc4 (o t : Int) : Steps [o / 2 / 1000000 / 60 / 60 % 24, o / 2 / 1000000 / 60 % 60, o / 2 / 1000000 % 60, o / 2 % 1000000, o % 2 + t] (casc 5 o (o + t)) [(o + t) / 2 / 1000000 / 60 / 60 % 24, (o + t) / 2 / 1000000 / 60 % 60, (o + t) / 2 / 1000000 % 60, (o + t) / 2 % 1000000, (o + t) % 2] := by
  unfold casc
  show Steps _ (if o / 2 = (o + t) / 2 then _ else (4, o % 2 + (o + t) - o) :: casc 4 (o / 2) ((o + t) / 2)) _
  split
  · rename_i h
    rw [show o % 2 + t = (o + t) % 2 by omega, h]
    exact .nil _
  · rw [show o % 2 + (o + t) - o = o % 2 + t by omega]
    refine .cons ?_ (by decide) rfl ?_
    · show bad5 _ _ _ _ _ = 4
      unfold bad5
      rw [if_neg (by omega), if_neg (by omega), if_neg (by omega), if_neg (by omega), if_pos (by omega)]
    · show Steps [o / 2 / 1000000 / 60 / 60 % 24, o / 2 / 1000000 / 60 % 60, o / 2 / 1000000 % 60, o / 2 % 1000000 + (o % 2 + t) / 2, o % 2 + t - (o % 2 + t) / 2 * 2] _ _
      have k := casc3 (o / 2) ((o % 2 + t) / 2) ((o + t) % 2)
      rw [show o / 2 + (o % 2 + t) / 2 = (o + t) / 2 by omega] at k
      rw [show o % 2 + t - (o % 2 + t) / 2 * 2 = (o + t) % 2 by omega]
      exact k
/-- the five refusal lists, one after the other, and the count -/
def countTo : List Int → Nat → Int
  | _, 0 => 0
  | l, k + 1 => countTo l k * sz k + l.getD k 0
def dueTo (l : List Int) : Nat → List (Nat × Int)
  | 0 => []
  | k + 1 => dueTo l k ++ casc (k + 1) (countTo l k * sz k) (countTo l k * sz k + l.getD k 0)
theorem dueTo_len (l : List Int) : (dueTo l 5).length ≤ 15 := by
  have h1 := casc_len 1 (countTo l 0 * sz 0) (countTo l 0 * sz 0 + l.getD 0 0)
  have h2 := casc_len 2 (countTo l 1 * sz 1) (countTo l 1 * sz 1 + l.getD 1 0)
  have h3 := casc_len 3 (countTo l 2 * sz 2) (countTo l 2 * sz 2 + l.getD 2 0)
  have h4 := casc_len 4 (countTo l 3 * sz 3) (countTo l 3 * sz 3 + l.getD 3 0)
  have h5 := casc_len 5 (countTo l 4 * sz 4) (countTo l 4 * sz 4 + l.getD 4 0)
  have e : dueTo l 5 = (((([] ++ casc 1 (countTo l 0 * sz 0) (countTo l 0 * sz 0 + l.getD 0 0)) ++ casc 2 (countTo l 1 * sz 1) (countTo l 1 * sz 1 + l.getD 1 0)) ++ casc 3 (countTo l 2 * sz 2) (countTo l 2 * sz 2 + l.getD 2 0)) ++ casc 4 (countTo l 3 * sz 3) (countTo l 3 * sz 3 + l.getD 3 0)) ++ casc 5 (countTo l 4 * sz 4) (countTo l 4 * sz 4 + l.getD 4 0) := rfl
  rw [e]
  simp only [List.length_append, List.length_nil]
  omega
def digitsOf (c : Int) : List Int := [c / 2 / 1000000 / 60 / 60 % 24, c / 2 / 1000000 / 60 % 60, c / 2 / 1000000 % 60, c / 2 % 1000000, c % 2]
theorem s0 (C a b c d e : Int) (h : C = 0) : Steps [a, b, c, d, e] (casc 1 (C * 24) (C * 24 + a)) [(C * 24 + a) % 24, b, c, d, e] := by
  have k := casc0 (C * 24) a b c d e
  rwa [show C * 24 % 24 + a = a by omega] at k
theorem s1 (C b c d e : Int) : Steps [C % 24, b, c, d, e] (casc 2 (C * 60) (C * 60 + b)) [(C * 60 + b) / 60 % 24, (C * 60 + b) % 60, c, d, e] := by
  have k := casc1 (C * 60) b c d e
  rwa [show C * 60 / 60 % 24 = C % 24 by omega, show C * 60 % 60 + b = b by omega] at k
theorem s2 (C c d e : Int) : Steps [C / 60 % 24, C % 60, c, d, e] (casc 3 (C * 60) (C * 60 + c)) [(C * 60 + c) / 60 / 60 % 24, (C * 60 + c) / 60 % 60, (C * 60 + c) % 60, d, e] := by
  have k := casc2 (C * 60) c d e
  rwa [show C * 60 / 60 = C by omega, show C * 60 % 60 + c = c by omega] at k
theorem s3 (C d e : Int) : Steps [C / 60 / 60 % 24, C / 60 % 60, C % 60, d, e] (casc 4 (C * 1000000) (C * 1000000 + d)) [(C * 1000000 + d) / 1000000 / 60 / 60 % 24, (C * 1000000 + d) / 1000000 / 60 % 60, (C * 1000000 + d) / 1000000 % 60, (C * 1000000 + d) % 1000000, e] := by
  have k := casc3 (C * 1000000) d e
  rwa [show C * 1000000 / 1000000 = C by omega, show C * 1000000 % 1000000 + d = d by omega] at k
theorem s4 (C e : Int) : Steps [C / 1000000 / 60 / 60 % 24, C / 1000000 / 60 % 60, C / 1000000 % 60, C % 1000000, e] (casc 5 (C * 2) (C * 2 + e)) (digitsOf (C * 2 + e)) := by
  have k := casc4 (C * 2) e
  rwa [show C * 2 / 2 = C by omega, show C * 2 % 2 + e = e by omega] at k
theorem run_all (a b c d e : Int) : Steps [a, b, c, d, e] (dueTo [a, b, c, d, e] 5) (digitsOf (countTo [a, b, c, d, e] 5)) :=
  (((((Steps.nil _).append (s0 (countTo [a, b, c, d, e] 0) a b c d e rfl)).append (s1 (countTo [a, b, c, d, e] 1) b c d e)).append (s2 (countTo [a, b, c, d, e] 2) c d e)).append (s3 (countTo [a, b, c, d, e] 3) d e)).append (s4 (countTo [a, b, c, d, e] 4) e)
theorem digits_ok (c : Int) : bad5L (digitsOf c) = 5 := by
  show bad5 _ _ _ _ _ = 5
  unfold bad5
  rw [if_neg (by omega), if_neg (by omega), if_neg (by omega), if_neg (by omega), if_neg (by omega)]
end Mine
end
section
open PySem PySem.W PyProof.Rows PySem.Calls
set_option maxRecDepth 100000
namespace Mine
section
variable {prog : Program} {w : World} {A₀ : Around} {E : Value → Shared → Prop} {s' : Shared} {h₀ h : Heap} {outer : List Env} {L a e t : Addr} {m : Str → Option Value} {name : Str} {scope : Scope} {cd : Value} {cl : List (Str × Addr)}
  {vs : List Value} {n : Str} {b₀ : Stmt} {suite : List Stmt} {pos np : Pos} {rest : List ExceptHandler} {Q : Flow → Shared → Prop} {news : List (Addr × Obj)}
  {p : Program} {loose : List Str} {mean : ExcName → Option Value} {mg mb : Str → Option Value} {x : Str} {X T' : String} {Kf : Frag}
/-- an exception caught in a frame with cells of its own -/
theorem caught_KBX (K : Below A₀ h₀ outer h₀) (F : Fr h₀ L h m) (hsm : h.UpToSlots s'.heap) (R : RaisedK h₀ (envX name scope L a cd cl :: outer) e (.type X) t vs news s'.heap)
    (T : TopRead p loose mg mb h₀) (XK : Kf.In h₀) (ek : nsIn Kf mainGlobals x = some none) (hv : bootBuiltins x = some (.type T'))
    (hexc : isSubtype (.type T') (.type "BaseException") = pure true) (hnt : isSubtype (.type ((Manifest.find? T').elim "type" fun y => y.metatype)) (.type "tuple") = pure false) (hsub : isSubtype (.type X) (.type T') = pure true)
    (k : ∀ h' news₂ tk, Fr h₀ L h' (fun y => if y = n then some (.ref e) else m y) → News h₀ L h' news₂ → Got news₂ e t (.type X) vs → News h₀ L h' news →
      wpAny (model prog w) ((A₀.deeper (envX name scope L a cd cl)).mark (some (.ref e))) (execs (b₀ :: suite) (envX name scope L a cd cl))
        (fun f s₄ => wpAny (model prog w) (A₀.deeper (envX name scope L a cd cl)) (do bindName (envX name scope L a cd cl) n .none; unbindBehindTheSuite (envX name scope L a cd cl) n pos) (fun _ s₅ => Q f s₅) E s₄)
        (AsSuiteRaised (model prog w) ((A₀.deeper (envX name scope L a cd cl)).mark (some (.ref e))) (envX name scope L a cd cl) n pos (notedBy (model prog w) ((A₀.deeper (envX name scope L a cd cl)).mark (some (.ref e))) (envX name scope L a cd cl) (cameBackBy (model prog w) (A₀.deeper (envX name scope L a cd cl)) (envX name scope L a cd cl) E)))
        { s' with heap := h', toks := tk })
    (hn : x ≠ "__name__" := by decide +kernel)
    (hk : scope.kind = .function := by rfl) (hlo : (envX name scope L a cd cl).kindOf n = some .local := by rfl) (hx : (envX name scope L a cd cl).kindOf x = some .globalImplicit := by rfl) (hd : (x == ("__debug__" : Str)) = false := by decide) :
    wpAny (model prog w) (A₀.deeper (envX name scope L a cd cl)) (noteFrame (.ref e) (envX name scope L a cd cl))
      (fun _ s₂ => wpAny (model prog w) (A₀.deeper (envX name scope L a cd cl)) (setFlight (.ref e) none) (fun _ s₃ =>
        wpAny (model prog w) (A₀.deeper (envX name scope L a cd cl)) (handleBy (.ref e) (envX name scope L a cd cl) (.ExceptHandler (some (.Name x np)) (some n) (b₀ :: suite) pos :: rest)) Q E s₃) E s₂) E s' := by
  obtain ⟨⟨B, hB, hl, hfl, hnew⟩, htup⟩ := R
  have hL : B.get? L = none := by
    obtain ⟨_, ⟨L', _, hf, hn', _⟩, _⟩ := hfl.2.2.1
    obtain rfl : L = L' := Option.some.inj hf
    exact hn'
  refine wpAny_looks_onW (Around.frames_deeper K.stack) rfl hfl fun h₄ hheld₄ hsm₄ => ?_
  refine wpAny_landsW hheld₄ fun h₅ hheld hsm₅' => ?_
  have hsm₅ := hsm₄.trans hsm₅'
  have hheld' := flyingW_base hB hheld
  have F₅ := F.of_stays hheld'.1 (hsm.trans hsm₅)
  obtain ⟨ob, hob, hobc⟩ := hheld'.there
  refine wpAny_handleBy_builtin_as (X := X) (T := T') (b := true) hexc hnt hsub (nameX_B F₅ XK T ek hv hn ⟨rfl, ⟨ob, hob, hobc⟩, ?_⟩ hk hx hd)
  refine lands_againW hheld fun h₆ hfl₆ hsm₆ => ?_
  have hfl₆' := flyingW_base hB hfl₆
  have F₆ := F.of_stays hfl₆'.1 ((hsm.trans hsm₅).trans hsm₆)
  obtain ⟨oe, ws, hoe, hoec, hoed, hoe0⟩ := hfl₆'.first
  obtain ⟨ot, nt, hot, hotc, hotd⟩ := (htup.of_slots hsm₅).of_slots hsm₆
  have N₆ := News.more F₆ (News.more F₆ News.nil hot (fun es n q => by rw [hotd] at q; cases q) (fresh_of_stays hB hnew)) hoe (fun es n q => by rw [hoed] at q; cases q) hfl₆'.2.1
  have Nl : News h₀ L h₆ news := fun q hq => ⟨hfl₆.1 _ _ (hl q hq).1, (fun z => by have := (hl q hq).1; rw [z, hL] at this; cases this), (hl q hq).2⟩
  refine storeX_L F₆ (news := _ ++ news) (fun q hq => (List.mem_append.mp hq).elim (N₆ q) (Nl q)) (fun h₇ F₇ N₇ => ?_) hk hlo
  exact k h₇ _ _ F₇ (fun q hq => N₇ q (List.mem_append_left _ hq)) ⟨oe, ot, ws, nt, .head _, .tail _ (.head _), hoec, hoed, hoe0, hotc, hotd⟩ fun q hq => N₇ q (List.mem_append_right _ hq)
end
theorem name_goes_X {M : Model} {A : Around} {E : Value → Shared → Prop} {s : Shared} {name : Str} {scope : Scope} {L a : Addr} {cd : Value} {cl : List (Str × Addr)} {h₀ : Heap} {m : Str → Option Value} {news : List (Addr × Obj)} {n : Str} {pos : Pos} {Q : Unit → Shared → Prop} (F : Fr h₀ L s.heap m) (N : News h₀ L s.heap news)
    (h : ∀ h' v, Fr h₀ L h' (fun x => if x = n then v else m x) → News h₀ L h' news → Q () { s with heap := h', toks := s.toks + 1 })
    (hk : scope.kind = .function := by rfl) (hl : (envX name scope L a cd cl).kindOf n = some .local := by rfl) :
    wpAny M A (do bindName (envX name scope L a cd cl) n .none; unbindBehindTheSuite (envX name scope L a cd cl) n pos) Q E s :=
  wpAny_nameGoes_keeps hl F.ns (by show (scope.kind == .class || (scope.kind == .module && L != mainGlobals)) = false; rw [hk]; rfl) fun h' v hn hs => h h' v (F.set hn hs) (N.set hs)
theorem got_join {h₀ h : Heap} {L e t : Addr} {nA nw : List (Addr × Obj)} {cls : Value} {vs : List Value} (NA : News h₀ L h nA) (G : Got nA e t cls vs) (NB : News h₀ L h nw) :
    ∃ oe ot, News h₀ L h ((t, ot) :: (e, oe) :: nw) ∧ Got ((t, ot) :: (e, oe) :: nw) e t cls vs := by
  obtain ⟨oe, ot, ws, nt, g1, g2, g3⟩ := G
  refine ⟨oe, ot, fun p hp => ?_, oe, ot, ws, nt, .tail _ (.head _), .head _, g3⟩
  rcases List.mem_cons.mp hp with rfl | hp
  · exact NA _ g2
  · rcases List.mem_cons.mp hp with rfl | hp
    · exact NA _ g1
    · exact NB _ hp
theorem got_off {h₀ h : Heap} {L e t x : Addr} {o : Obj} {nw : List (Addr × Obj)} {X : String} {vs : List Value} (N : News h₀ L h nw) (G : Got nw e t (.type X) vs) (hm : (x, o) ∈ nw) (hc : o.cls = .type "list") (hX : X ≠ "list") : @Ne Nat t x ∧ @Ne Nat e x := by
  obtain ⟨oe, ot, ws, nt, g1, g2, g3, g4, g5, g6, g7⟩ := G
  constructor
  · intro h
    have q : t = x := h
    subst q
    have e1 : o = ot := Option.some.inj ((N _ hm).1.symm.trans (N _ g2).1)
    rw [e1, g6] at hc
    injection hc with hc
    exact absurd hc (by decide)
  · intro h
    have q : e = x := h
    subst q
    have e1 : o = oe := Option.some.inj ((N _ hm).1.symm.trans (N _ g1).1)
    rw [e1, g3] at hc
    injection hc with hc
    exact hX hc
end Mine
end
section
open PySem PySem.W PyProof.Rows PySem.Calls
set_option maxRecDepth 100000
namespace Mine
section
variable {prog : Program} {w : World} {A : Around} {E : Value → Shared → Prop} {s : Shared} {env : Env} {h₀ : Heap} {target : Expr} {body : List Stmt} {Q : Flow → Shared → Prop}
theorem subL_of : ∀ {l all : List (Addr × Obj)}, (∀ p ∈ l, p ∈ all) → SubL l all
  | [], _, _ => trivial
  | p :: _, _, h => ⟨h p (.head _), subL_of fun q hq => h q (.tail _ hq)⟩
theorem allObj_mono : ∀ {ws : List (Addr × String)} {k k' : List (Addr × Obj) → Prop}, (∀ its, Objs ws its → k its → k' its) → AllObj ws k → AllObj ws k'
  | [], _, _, f, h => f [] trivial h
  | _ :: _, _, _, f, h => fun o ho => allObj_mono (fun its hi => f _ ⟨⟨rfl, ho⟩, hi⟩) (h o ho)
theorem itemsRest_inv {ws : List (Addr × String)} {keep : List (Addr × Obj)} {xs : List Itm} (J : Nat → (Str → Option Value) → List (Addr × Obj) → Prop) (hk : ∀ i m nw, J i m nw → ∀ p ∈ keep, p ∈ nw)
    (turn : ∀ i a v m nw h tk, xs[i]? = some a → J i m nw → a.Is v h → Fr h₀ env.locals h m → AllObj ws (fun its => News h₀ env.locals h (its ++ nw) →
      wpAny (model prog w) A (assign target env v) (fun _ s₂ => wpAny (model prog w) A (execs body env) (UnrPostW h₀ env.locals { s with heap := h, toks := tk } its (J (i + 1)) Q) E s₂) E { s with heap := h, toks := tk }))
    (done : ∀ m nw h tk, J xs.length m nw → Fr h₀ env.locals h m → News h₀ env.locals h nw → Q .next { s with heap := h, toks := tk }) :
    ∀ k i m nw, i + k = xs.length → J i m nw → ItemsRest prog w A E h₀ env target body Q s ws keep (xs.drop i) m nw
  | 0, i, m, nw, e, hJ => by
    have e' : i = xs.length := by omega
    subst e'
    rw [List.drop_length]
    exact fun h tk F N => done m nw h tk hJ F N
  | k + 1, i, m, nw, e, hJ => by
    have hlt : i < xs.length := by omega
    rw [List.drop_eq_getElem_cons hlt]
    intro v h tk hv F
    refine allObj_mono (fun its _ g N => ?_) (turn i xs[i] v m nw h tk (List.getElem?_eq_getElem hlt) hJ hv F)
    refine wpAny_mono (g N) (fun _ s₂ q => wpAny_mono q (fun f s₃ p => ?_) fun _ _ e => e) fun _ _ e => e
    have fin : UnrEndW h₀ env.locals { s with heap := h, toks := tk } its (J (i + 1)) s₃ → UnrEndW h₀ env.locals { s with heap := h, toks := tk } its (fun m' n' => SubL keep n' ∧ ItemsRest prog w A E h₀ env target body Q s ws keep (xs.drop (i + 1)) m' n') s₃ := by
      rintro ⟨h', tk', m', news', e1, F', N', o, hj⟩
      exact ⟨h', tk', m', news', e1, F', N', o, subL_of (hk _ _ _ hj), itemsRest_inv J hk turn done k (i + 1) m' news' (by omega) hj⟩
    cases f with
    | ret v => exact p
    | brk => exact p
    | next => exact fin p
    | cont => exact fin p
theorem uEnd {L : Addr} {its : List (Addr × Obj)} {rest : (Str → Option Value) → List (Addr × Obj) → Prop} {s₁ : Shared} {h' : Heap} {tk : Nat} {m' : Str → Option Value} {all : List (Addr × Obj)} (news' : List (Addr × Obj)) (F : Fr h₀ L h' m') (N : News h₀ L h' all)
    (hI : ∀ p ∈ its, p ∈ all) (sub : ∀ p ∈ news', p ∈ all) (off : ∀ p ∈ news', ∀ q ∈ its, p.1 ≠ q.1) (r : rest m' news') : UnrEndW h₀ L s₁ its rest { s₁ with heap := h', toks := tk } :=
  ⟨h', tk, m', news', rfl, F, fun p hp => by
    rcases List.mem_append.mp hp with hp | hp
    · exact N p (hI p hp)
    · exact N p (sub p hp), off, r⟩

theorem assign_pair {xi xc : Str} {pk pv pt : Pos} {x1 : Nat} {T : Addr} {v0 v1 : Value} {h : Heap} {tk : Nat} {m : Str → Option Value} {news : List (Addr × Obj)} {Q' : Unit → Shared → Prop} (hh : A.handled = none) (hT : IsTup h T #[v0, v1]) (F : Fr h₀ env.locals h m) (N : News h₀ env.locals h news)
    (hxi : env.kindOf xi = some .local) (hxc : env.kindOf xc = some .local) (hp : (env.scope.kind == .class || (env.scope.kind == .module && env.locals != env.globals)) = false)
    (g : ∀ h' tk', Fr h₀ env.locals h' (fun y => if y = xc then some v1 else if y = xi then some v0 else m y) → News h₀ env.locals h' news → Q' () { s with heap := h', toks := tk' }) :
    wpAny (model prog w) A (assign (.Tuple [.Name xi pk, .Name xc pv] x1 pt) env (.ref T)) Q' E { s with heap := h, toks := tk } := by
  refine wpAny_assign_Tuple hh hT rfl rfl fun h₃ hx₃ => ?_
  replace hx₃ : Heap.ExtBut h.objs.size h h₃ := hx₃
  have up₃ : ∀ b o, h.get? b = some o → h₃.get? b = some o := fun b o x => hx₃ b o (Nat.ne_of_lt (Heap.lt_size x)) x
  have F₃ := F.keeps up₃
  have N₃ := N.grown up₃
  show wpAny _ A (do holding [v1] (assign (.Name xi pk) env v0); do holding [] (assign (.Name xc pv) env v1); pure ()) _ _ _
  refine wpAny_bind (wpAny_holding (wpAny_assign_Name (wpAny_storeName_local hxi F₃.ns (fun h₄ hn₄ hs₄ => ?_) hp)))
  replace hs₄ : Heap.SameBut env.locals h₃ h₄ := hs₄
  have F₄ := F₃.set hn₄ hs₄
  refine wpAny_bind (wpAny_holding (wpAny_assign_Name (wpAny_storeName_local hxc F₄.ns (fun h₅ hn₅ hs₅ => wpAny_pure ?_) hp)))
  replace hs₅ : Heap.SameBut env.locals h₄ h₅ := hs₅
  exact g h₅ _ (F₄.set hn₅ hs₅) ((N₃.set hs₄).set hs₅)

theorem j_enum {xi xc : Str} {pk pv pt : Pos} {x1 : Nat} {l : Addr} {items : Array Value} {c : Nat} {m₀ : Str → Option Value} {news : List (Addr × Obj)}
    (J : Nat → (Str → Option Value) → List (Addr × Obj) → Prop) (hh : A.handled = none) (hl : ∀ i m nw, J i m nw → (l, W.listOf items c) ∈ nw)
    (hxi : env.kindOf xi = some .local) (hxc : env.kindOf xc = some .local) (hp : (env.scope.kind == .class || (env.scope.kind == .module && env.locals != env.globals)) = false)
    (F : Fr h₀ env.locals s.heap m₀) (N : News h₀ env.locals s.heap news) (hj : J 0 m₀ news)
    (turn : ∀ i v t m nw h tk I oe oi, items[i]? = some v → J i m nw → (∀ p ∈ nw, p.1 ≠ I + 1 ∧ p.1 ≠ I) → Fr h₀ env.locals h (fun y => if y = xc then some v else if y = xi then some (.int (i : Int) t) else m y) → News h₀ env.locals h ((I + 1, oe) :: (I, oi) :: nw) →
      wpAny (model prog w) A (execs body env) (UnrPostW h₀ env.locals { s with heap := h, toks := tk } [(I + 1, oe), (I, oi)] (J (i + 1)) Q) E { s with heap := h, toks := tk })
    (done : ∀ m nw h tk, J items.size m nw → Fr h₀ env.locals h m → News h₀ env.locals h nw → Q .next { s with heap := h, toks := tk }) :
    wpAny (model prog w) A (call (.type "enumerate") [.ref l]) (fun xv s₁ => wpAny (model prog w) A (pyIter xv) (fun it s₂ => TurnsAt prog w A h₀ env (.Tuple [.Name xi pk, .Name xc pv] x1 pt) body Q E it s₂) E s₁) E s := by
  refine ktu_enum (vs := items.toList) (n := c) hh F N (hl _ _ _ hj) rfl (by simp) rfl fun I hI => ?_
  have q := itemsRest_inv (s := s) (E := E) (Q := Q) (env := env) (h₀ := h₀) (target := .Tuple [.Name xi pk, .Name xc pv] x1 pt) (body := body) (prog := prog) (w := w) (A := A) (ws := [(I + 1, "enumerate"), (I, "list_iterator")]) (keep := [(l, W.listOf items c)]) (xs := enumItems 0 items.toList)
    (fun i m nw => J i m nw ∧ ∀ p ∈ nw, p.1 ≠ I + 1 ∧ p.1 ≠ I) (fun i m nw q p hp => by rw [List.mem_singleton.mp hp]; exact hl _ _ _ q.1) ?_ ?_ (enumItems 0 items.toList).length 0 m₀ news (Nat.zero_add _) ⟨hj, fun p hp => ?_⟩
  · simpa using q
  · rintro i a v m nw h tk ha ⟨hJ, hoff⟩ hv F₁ oe hoe oi hoi N₁
    have hlt : i < items.size := by
      have := (List.getElem?_eq_some_iff.mp ha).1
      simpa [enumItems_length] using this
    have hit : items.toList[i]? = some items[i] := by simp [hlt]
    have e := enumItems_get items.toList 0 i hit
    rw [ha] at e
    injection e with e
    subst e
    obtain ⟨T, t, rfl, hT⟩ := hv
    rw [Nat.zero_add] at hT
    refine assign_pair hh hT F₁ N₁ hxi hxc hp fun h' tk₂ F₂ N₂ => ?_
    refine wpAny_mono (turn i items[i] t m nw h' tk₂ I oe oi (by simp [hlt]) hJ hoff F₂ N₂) (fun f s₃ p => ?_) fun _ _ e => e
    have fin : UnrEndW h₀ env.locals { s with heap := h', toks := tk₂ } [(I + 1, oe), (I, oi)] (J (i + 1)) s₃ → UnrEndW h₀ env.locals { s with heap := h, toks := tk } [(I + 1, oe), (I, oi)] (fun m nw => J (i + 1) m nw ∧ ∀ p ∈ nw, p.1 ≠ I + 1 ∧ p.1 ≠ I) s₃ := by
      rintro ⟨h', tk', m', news', e1, F', N', o, hj⟩
      exact ⟨h', tk', m', news', e1, F', N', o, hj, fun p hp => ⟨o p hp _ (.head _), o p hp _ (.tail _ (.head _))⟩⟩
    cases f with
    | ret v => exact p
    | brk => exact p
    | next => exact fin p
    | cont => exact fin p
  · rintro m nw h tk ⟨hJ, _⟩ F₁ N₁
    rw [enumItems_length, Array.length_toList] at hJ
    exact done m nw h tk hJ F₁ N₁
  · have := hI p hp
    constructor
    · intro e; rw [e] at this; exact absurd this (Nat.not_lt.mpr (Nat.le_succ _))
    · intro e; rw [e] at this; exact Nat.lt_irrefl _ this

theorem j_zip {xi xc : Str} {pk pv pt : Pos} {x1 : Nat} {l1 l2 : Addr} {its1 its2 : Array Value} {c1 c2 : Nat} {m₀ : Str → Option Value} {news : List (Addr × Obj)}
    (J : Nat → (Str → Option Value) → List (Addr × Obj) → Prop) (hh : A.handled = none) (hl1 : ∀ i m nw, J i m nw → (l1, W.listOf its1 c1) ∈ nw) (hl2 : ∀ i m nw, J i m nw → (l2, W.listOf its2 c2) ∈ nw)
    (hxi : env.kindOf xi = some .local) (hxc : env.kindOf xc = some .local) (hp : (env.scope.kind == .class || (env.scope.kind == .module && env.locals != env.globals)) = false)
    (F : Fr h₀ env.locals s.heap m₀) (N : News h₀ env.locals s.heap news) (hj : J 0 m₀ news)
    (turn : ∀ i u v m nw h tk I its, its1[i]? = some u → its2[i]? = some v → J i m nw → (∀ p ∈ nw, ∀ q ∈ its, p.1 ≠ q.1) → its.map (·.1) = [I + 4, I + 2, I + 3, I, I + 1] → Fr h₀ env.locals h (fun y => if y = xc then some v else if y = xi then some u else m y) → News h₀ env.locals h (its ++ nw) →
      wpAny (model prog w) A (execs body env) (UnrPostW h₀ env.locals { s with heap := h, toks := tk } its (J (i + 1)) Q) E { s with heap := h, toks := tk })
    (done : ∀ m nw h tk, J (min its1.size its2.size) m nw → Fr h₀ env.locals h m → News h₀ env.locals h nw → Q .next { s with heap := h, toks := tk }) :
    wpAny (model prog w) A (call (.type "zip") [.ref l1, .ref l2]) (fun xv s₁ => wpAny (model prog w) A (pyIter xv) (fun it s₂ => TurnsAt prog w A h₀ env (.Tuple [.Name xi pk, .Name xc pv] x1 pt) body Q E it s₂) E s₁) E s := by
  refine ktu_zip (xs := its1.toList) (ys := its2.toList) (n1 := c1) (n2 := c2) hh F N (hl1 _ _ _ hj) rfl (by simp) (hl2 _ _ _ hj) rfl (by simp) fun I hI => ?_
  have q := itemsRest_inv (s := s) (E := E) (Q := Q) (env := env) (h₀ := h₀) (target := .Tuple [.Name xi pk, .Name xc pv] x1 pt) (body := body) (prog := prog) (w := w) (A := A) (ws := [(I + 4, "zip"), (I + 2, "tuple"), (I + 3, "tuple"), (I, "list_iterator"), (I + 1, "list_iterator")]) (keep := [(l1, W.listOf its1 c1), (l2, W.listOf its2 c2)]) (xs := zipItems its1.toList its2.toList)
    (fun i m nw => J i m nw ∧ ∀ p ∈ nw, p.1 ∉ [I + 4, I + 2, I + 3, I, I + 1]) (fun i m nw q p hp => ?_) ?_ ?_ (zipItems its1.toList its2.toList).length 0 m₀ news (Nat.zero_add _) ⟨hj, fun p hp => ?_⟩
  · simpa using q
  · rcases List.mem_cons.mp hp with rfl | hp
    · exact hl1 _ _ _ q.1
    · rw [List.mem_singleton.mp hp]; exact hl2 _ _ _ q.1
  · rintro i a v m nw h tk ha ⟨hJ, hoff⟩ hv F₁
    have hlt : i < min its1.size its2.size := by
      have := (List.getElem?_eq_some_iff.mp ha).1
      simpa [zipItems_length] using this
    have h1 : i < its1.size := by omega
    have h2 : i < its2.size := by omega
    have e := zipItems_get its1.toList its2.toList i (x := its1[i]) (y := its2[i]) (by simp [h1]) (by simp [h2])
    rw [ha] at e
    injection e with e
    subst e
    obtain ⟨T, t, rfl, hT⟩ := hv
    refine allObj_mono (k := fun _ => True) (fun its hits _ N₁ => ?_) (fun _ _ _ _ _ _ _ _ _ _ => trivial)
    have hmap := hits.map
    have hoff' : ∀ p ∈ nw, ∀ q ∈ its, p.1 ≠ q.1 := fun p hp q hq e => hoff p hp (by
      have hm : q.1 ∈ its.map (·.1) := List.mem_map.mpr ⟨q, hq, rfl⟩
      rw [hmap] at hm
      exact e ▸ hm)
    refine assign_pair hh hT F₁ N₁ hxi hxc hp fun h' tk₂ F₂ N₂ => ?_
    refine wpAny_mono (turn i its1[i] its2[i] m nw h' tk₂ I its (by simp [h1]) (by simp [h2]) hJ hoff' hmap F₂ N₂) (fun f s₃ p => ?_) fun _ _ e => e
    have fin : UnrEndW h₀ env.locals { s with heap := h', toks := tk₂ } its (J (i + 1)) s₃ → UnrEndW h₀ env.locals { s with heap := h, toks := tk } its (fun m nw => J (i + 1) m nw ∧ ∀ p ∈ nw, p.1 ∉ [I + 4, I + 2, I + 3, I, I + 1]) s₃ := by
      rintro ⟨h', tk', m', news', e1, F', N', o, hj⟩
      refine ⟨h', tk', m', news', e1, F', N', o, hj, fun p hp hq => ?_⟩
      have hq' : p.1 ∈ its.map (·.1) := by rw [hmap]; exact hq
      obtain ⟨q, hq1, hq2⟩ := List.mem_map.mp hq'
      exact o p hp q hq1 hq2.symm
    cases f with
    | ret v => exact p
    | brk => exact p
    | next => exact fin p
    | cont => exact fin p
  · rintro m nw h tk ⟨hJ, _⟩ F₁ N₁
    rw [zipItems_length, Array.length_toList, Array.length_toList] at hJ
    exact done m nw h tk hJ F₁ N₁
  · have hlt := hI p hp
    intro hq
    have hq' : p.1 = I + 4 ∨ p.1 = I + 2 ∨ p.1 = I + 3 ∨ p.1 = I ∨ p.1 = I + 1 := by simpa using hq
    have hlt' : @LT.lt Nat _ p.1 I := hlt
    rcases hq' with e | e | e | e | e <;> (rw [e] at hlt'; exact absurd hlt' (by first | exact Nat.lt_irrefl _ | exact Nat.not_lt.mpr (Nat.le_add_right _ _)))
end
end Mine
end
section
open PySem PySem.W PyProof.Rows PySem.Calls
set_option maxRecDepth 100000
namespace Mine
section
variable {prog : Program} {w : World} {A : Around} {E : Value → Shared → Prop} {Q : Flow → Shared → Prop} {s : Shared} {env : Env} {h₀ : Heap} {L : Addr}
/-- the end of a turn of a while whose base may turn (a catch turns the slots of the frames below) -/
def WEndG (L : Addr) (s : Shared) (J : Nat → Heap → (Str → Option Value) → List (Addr × Obj) → Prop) (n : Nat) (s₃ : Shared) : Prop :=
  ∃ g' h' tk m₂ news₂ n', s₃ = { s with heap := h', toks := tk } ∧ Fr g' L h' m₂ ∧ News g' L h' news₂ ∧ n' < n ∧ J n' g' m₂ news₂
def WStepG (L : Addr) (s : Shared) (J : Nat → Heap → (Str → Option Value) → List (Addr × Obj) → Prop) (Q : Flow → Shared → Prop) (n : Nat) (f : Flow) (s₃ : Shared) : Prop :=
  match f with
  | .next | .cont => WEndG L s J n s₃
  | .brk => Q .next s₃
  | .ret v => Q (.ret v) s₃
theorem While_invG {test : Expr} {body : List Stmt} {pos : Pos} {m : Str → Option Value} {news : List (Addr × Obj)} (J : Nat → Heap → (Str → Option Value) → List (Addr × Obj) → Prop) {n₀ : Nat}
    (F : Fr h₀ L s.heap m) (N : News h₀ L s.heap news) (hJ : J n₀ h₀ m news)
    (turn : ∀ n g m₁ news₁ h₁ tk₁, Fr g L h₁ m₁ → News g L h₁ news₁ → J n g m₁ news₁ →
      wpAny (model prog w) A (isTrue test env (eval test env)) (fun b s₂ =>
        if b = true then wpAny (model prog w) A (execs body env) (WStepG L s J Q n) E s₂ else Q .next s₂) E { s with heap := h₁, toks := tk₁ })
    (hE : PassesOwn (model prog w) A env E := by passes_own) :
    wpAny (model prog w) A (exec (.While test body [] pos) env) Q E s := by
  refine wpAny_While (codeAny_whileLoop (fun n s' => ∃ g h₁ tk₁ m₁ news₁, s' = { s with heap := h₁, toks := tk₁ } ∧ Fr g L h₁ m₁ ∧ News g L h₁ news₁ ∧ J n g m₁ news₁) ?_ n₀ ⟨h₀, s.heap, s.toks, m, news, rfl, F, N, hJ⟩)
  rintro n s' ⟨g, h₁, tk₁, m₁, news₁, rfl, F₁, N₁, J₁⟩
  refine wpAny_mono (turn n g m₁ news₁ h₁ tk₁ F₁ N₁ J₁) (fun b s₂ h₂ => ?_) hE
  cases b with
  | false =>
    simp only [Bool.false_eq_true, if_false] at h₂ ⊢
    exact wpAny_execs_nil h₂
  | true =>
    simp only [if_true] at h₂ ⊢
    refine wpAny_mono h₂ (fun f s₃ h₃ => ?_) hE
    cases f with
    | next =>
      obtain ⟨g', h', tk, m₂, news₂, n', rfl, F₂, N₂, hn, J₂⟩ := h₃
      exact ⟨n', hn, g', h', tk, m₂, news₂, rfl, F₂, N₂, J₂⟩
    | cont =>
      obtain ⟨g', h', tk, m₂, news₂, n', rfl, F₂, N₂, hn, J₂⟩ := h₃
      exact ⟨n', hn, g', h', tk, m₂, news₂, rfl, F₂, N₂, J₂⟩
    | brk => exact h₃
    | ret v => exact h₃
end
end Mine
end
section
open PySem PySem.W PyProof.Rows PySem.Calls PySem.Spec
set_option maxRecDepth 100000
namespace Mine
open LCg LCt
section
variable {prog : Program} {w : World} {A : Around} {E : Value → Shared → Prop} {s : Shared} {h₀ : Heap} {L : Addr} {m : Str → Option Value} {env : Env}
/-- a test that says no and changes nothing that the ledger speaks of -/
def TestOff (h₀ : Heap) (L : Addr) (m : Str → Option Value) (s : Shared) (led : List (Addr × Obj)) (ok : Bool) (s' : Shared) : Prop :=
  ok = false ∧ ∃ h' tk, s' = { s with heap := h', toks := tk } ∧ Fr h₀ L h' m ∧ News h₀ L h' led
theorem TestOff.intro {led led' : List (Addr × Obj)} {h' : Heap} {tk : Nat} (F : Fr h₀ L h' m) (N : News h₀ L h' led') (hs : ∀ p ∈ led, p ∈ led') : TestOff h₀ L m s led false { s with heap := h', toks := tk } :=
  ⟨rfl, h', tk, rfl, F, fun p hp => N p (hs p hp)⟩

theorem compRestT_none {ct elt : Expr} {x : Str} {scope : Scope} {cl : List (Str × Addr)} {S : List (Addr × Obj) → Prop} {P : Nat → Value → Prop} {Fin : List Value → List (Addr × Obj) → Prop} {news : List (Addr × Obj)}
    (hS : S news) (hfin : Fin [] news)
    (htest : ∀ (i : Nat) (v : Value) (I : Addr) (oI : Obj) (C : Addr) (oC : Obj) (D : Addr) (m₂ : Str → Option Value) (h : Heap) (tk : Nat) (E' : Value → Shared → Prop), P i v → NsObj oC m₂ → m₂ x = some v → Fr h₀ L h m → News h₀ L h ((I, oI) :: (C, oC) :: (D, lst []) :: news) →
      wpAny (model prog w) A (isTrue ct (compEnvC scope cl C env) (eval ct (compEnvC scope cl C env))) (TestOff h₀ L m { s with heap := h, toks := tk } ((I, oI) :: (C, oC) :: (D, lst []) :: news)) E' { s with heap := h, toks := tk }) :
    ∀ k i, CompRestT prog w A h₀ L m env ct elt x scope cl s S P Fin k i [] news
  | 0, _ => hfin
  | k + 1, i => fun v I oI C oC D m₂ h tk E' hP hC hm F N off d => by
    refine wpAny_mono (htest i v I oI C oC D m₂ h tk E' hP hC hm F N) (fun ok s' q => ?_) fun _ _ e => e
    obtain ⟨rfl, h', tk', rfl, F', N'⟩ := q
    simp only [Bool.false_eq_true, if_false]
    exact ⟨h', tk', news, rfl, F', N', off, hS, compRestT_none hS hfin htest k (i + 1)⟩

theorem ListComp_none {ct elt iter : Expr} {x : Str} {px : Pos} {scope : Scope} {cl : List (Str × Addr)} {pos : Pos} {Q : Value → Shared → Prop} {ax : Addr} {items : Array Value} {n : Nat} {news : List (Addr × Obj)}
    (F : Fr h₀ L s.heap m) (N : News h₀ L s.heap news) (hh : A.handled = none)
    (hev : ∀ Q' : Value → Shared → Prop, Q' (.ref ax) s → wpAny (model prog w) A (eval iter env) Q' E s)
    (ht : (ax, ({ cls := .type "tuple", data := .seq items n } : Obj)) ∈ news ∨ (ax, W.listOf items n) ∈ news) (hsz : items.size ≤ sizeLine)
    (hclos : closureFor scope env = pure cl) (hcell : ∀ y ∈ scope.names, y.2 ≠ .cell) (hkind : scope.kind = .function)
    (hnames : ∀ y ∈ scope.names, y.2 = .local → scope.names.lookup y.1 = some .local) (hx : scope.names.lookup x = some .local) (hs : ∀ x, foldedSetIterable iter env x = pure x)
    (htest : ∀ (i : Nat) (v : Value) (I : Addr) (oI : Obj) (C : Addr) (oC : Obj) (D : Addr) (m₂ : Str → Option Value) (h : Heap) (tk : Nat) (E' : Value → Shared → Prop), items[i]? = some v → NsObj oC m₂ → m₂ x = some v → Fr h₀ L h m → News h₀ L h ((I, oI) :: (C, oC) :: (D, lst []) :: news) →
      wpAny (model prog w) A (isTrue ct (compEnvC scope cl C env) (eval ct (compEnvC scope cl C env))) (TestOff h₀ L m { s with heap := h, toks := tk } ((I, oI) :: (C, oC) :: (D, lst []) :: news)) E' { s with heap := h, toks := tk })
    (fin : ∀ D h tk, Fr h₀ L h m → News h₀ L h ((D, lst []) :: news) → Off1 D news → Q (.ref D) { s with heap := h, toks := tk }) :
    wpAny (model prog w) A (eval (.ListComp elt [⟨.Name x px, iter, [ct], 0⟩] scope pos) env) Q E s := by
  rw [eval_ListComp]
  refine wpAny_comprehension_free (use := none) rfl hs hclos hkind hnames (hev _ ?_)
  have rr : ∀ s₂ : Shared, (∃ h, s₂ = { s with heap := h }) → ∀ D C h tk m' ys news', Fr h₀ L h m → News h₀ L h ((D, lst ys) :: news') → Off1 D news' → h.Ns C m' → h₀.get? C = none → h₀.get? D = none → C ≠ L → D ≠ L → C ≠ D → (∀ p ∈ news', p.1 ≠ C) → (fun ys nw => ys = [] ∧ nw = news) ys news' →
      compPost (model prog w) A E none Q (.ref D) C (.ok .next) { s₂ with heap := h, toks := tk } := by
    rintro _ ⟨h1, rfl⟩ D C h tk m' ys news' F' N' o1 hn hC₀ hD₀ hCL hDL hCD offC ⟨rfl, rfl⟩
    refine ⟨m', hn, fun h'' hs'' => fin D h'' tk (F'.change hs'' hCL hC₀) (fun p hp => ?_) o1⟩
    refine ⟨hs''.extBut _ _ ?_ (N' p hp).1, (N' p hp).2⟩
    rcases List.mem_cons.mp hp with rfl | hp
    · exact Ne.symm hCD
    · exact offC p hp
  rcases ht with ht | ht
  · have hl : s.heap.IsTuple ax items := ⟨_, (N _ ht).1, rfl, n, rfl⟩
    have hlt : ax < s.heap.objs.size := Heap.lt_size (N _ ht).1
    refine wpAny_pyIter_tuple hl ?_
    have up : ∀ b o, s.heap.get? b = some o → (s.heap.push { cls := .type "tuple_iterator", data := .fields #[.ref ax, .int 0 0] }).get? b = some o := fun b o e => Heap.get?_push_of_some _ e
    refine block_T (S := fun nw => (ax, ({ cls := .type "tuple", data := .seq items n } : Obj)) ∈ nw) (Fin := fun ys nw => ys = [] ∧ nw = news) (Walks.tuple hh s.heap.objs.size ax (Nat.ne_of_lt hlt) items) hsz (fun i h st => by obtain ⟨o, e, _⟩ := st.1; exact ⟨o, e⟩)
      (fun i h h' o nw st e e' k N S => ⟨by obtain ⟨o', q, r⟩ := st.1; rw [e] at q; cases q; exact ⟨o, e', r⟩, ⟨_, (N _ S).1, rfl, n, rfl⟩⟩) hcell hkind hx ⟨⟨_, Heap.get?_push_size _ rfl, rfl, rfl⟩, hl.at fun o e => up _ o e⟩ (fun b hb => ?_)
      (F.keeps up) (N.grown up) (Nat.ne_of_lt F.ns.lt) (next_is_new F) (fun p hp => Nat.ne_of_lt (Heap.lt_size (N p hp).1)) ht (compRestT_none (s := { s with heap := s.heap.push _ }) (S := fun nw => (ax, ({ cls := .type "tuple", data := .seq items n } : Obj)) ∈ nw) (P := fun i v => items[i]? = some v) (Fin := fun ys nw => ys = [] ∧ nw = news) ht (And.intro rfl rfl) (fun i v I oI C oC D m₂ h tk E' hP hC hm F' N' => htest i v I oI C oC D m₂ h tk E' hP hC hm F' N') _ _) (rr _ ⟨_, rfl⟩)
    show b < (s.heap.push _).objs.size
    rw [Heap.size_push]
    rcases List.mem_cons.mp hb with rfl | hb
    · exact Nat.lt_succ_self _
    · rw [List.mem_singleton.mp hb]; exact Nat.lt_succ_of_lt hlt
  · have hl : s.heap.IsList ax items := ⟨_, (N _ ht).1, rfl, n, rfl⟩
    have hlt : ax < s.heap.objs.size := Heap.lt_size (N _ ht).1
    refine wpAny_pyIter_list hl ?_
    have up : ∀ b o, s.heap.get? b = some o → (s.heap.push { cls := .type "list_iterator", data := .fields #[.ref ax, .int 0 0] }).get? b = some o := fun b o e => Heap.get?_push_of_some _ e
    refine block_T (S := fun nw => (ax, W.listOf items n) ∈ nw) (Fin := fun ys nw => ys = [] ∧ nw = news) (Walks.list hh s.heap.objs.size ax (Nat.ne_of_lt hlt) items) hsz (fun i h st => by obtain ⟨o, e, _⟩ := st.1; exact ⟨o, e⟩)
      (fun i h h' o nw st e e' k N S => ⟨by obtain ⟨o', q, r⟩ := st.1; rw [e] at q; cases q; exact ⟨o, e', r⟩, ⟨_, (N _ S).1, rfl, n, rfl⟩⟩) hcell hkind hx ⟨⟨_, Heap.get?_push_size _ rfl, rfl, rfl⟩, hl.at fun o e => up _ o e⟩ (fun b hb => ?_)
      (F.keeps up) (N.grown up) (Nat.ne_of_lt F.ns.lt) (next_is_new F) (fun p hp => Nat.ne_of_lt (Heap.lt_size (N p hp).1)) ht (compRestT_none (s := { s with heap := s.heap.push _ }) (S := fun nw => (ax, W.listOf items n) ∈ nw) (P := fun i v => items[i]? = some v) (Fin := fun ys nw => ys = [] ∧ nw = news) ht (And.intro rfl rfl) (fun i v I oI C oC D m₂ h tk E' hP hC hm F' N' => htest i v I oI C oC D m₂ h tk E' hP hC hm F' N') _ _) (rr _ ⟨_, rfl⟩)
    show b < (s.heap.push _).objs.size
    rw [Heap.size_push]
    rcases List.mem_cons.mp hb with rfl | hb
    · exact Nat.lt_succ_self _
    · rw [List.mem_singleton.mp hb]; exact Nat.lt_succ_of_lt hlt

/-- a test that answers b and changes nothing that the ledger speaks of -/
def TestIs (h₀ : Heap) (L : Addr) (m : Str → Option Value) (s : Shared) (led : List (Addr × Obj)) (b : Bool) (ok : Bool) (s' : Shared) : Prop :=
  ok = b ∧ ∃ h' tk, s' = { s with heap := h', toks := tk } ∧ Fr h₀ L h' m ∧ News h₀ L h' led
theorem TestIs.intro {led led' : List (Addr × Obj)} {h' : Heap} {tk : Nat} {b ok : Bool} (e : ok = b) (F : Fr h₀ L h' m) (N : News h₀ L h' led') (hs : ∀ p ∈ led, p ∈ led') : TestIs h₀ L m s led b ok { s with heap := h', toks := tk } :=
  ⟨e, h', tk, rfl, F, fun p hp => N p (hs p hp)⟩

theorem compRestT_filt {ct : Expr} {x : Str} {pe : Pos} {scope : Scope} {cl : List (Str × Addr)} {S : List (Addr × Obj) → Prop} {items : Array Value} {Fin : List Value → List (Addr × Obj) → Prop} {news : List (Addr × Obj)} (p : Value → Bool)
    (hS : S news) (hfin : Fin (items.toList.filter p) news) (hkind : scope.kind = .function) (hx : scope.names.lookup x = some .local) (hd : (x == ("__debug__" : Str)) = false)
    (htest : ∀ (i : Nat) (v : Value) (ys : List Value) (I : Addr) (oI : Obj) (C : Addr) (oC : Obj) (D : Addr) (m₂ : Str → Option Value) (h : Heap) (tk : Nat) (E' : Value → Shared → Prop), items[i]? = some v → NsObj oC m₂ → m₂ x = some v → Fr h₀ L h m → News h₀ L h ((I, oI) :: (C, oC) :: (D, lst ys) :: news) →
      wpAny (model prog w) A (isTrue ct (compEnvC scope cl C env) (eval ct (compEnvC scope cl C env))) (TestIs h₀ L m { s with heap := h, toks := tk } ((I, oI) :: (C, oC) :: (D, lst ys) :: news) (p v)) E' { s with heap := h, toks := tk }) :
    ∀ k i, i + k = items.size → CompRestT prog w A h₀ L m env ct (.Name x pe) x scope cl s S (fun i v => items[i]? = some v) Fin k i ((items.toList.take i).filter p) news
  | 0, i, hk => by
    rw [List.take_of_length_le (by simp; omega)]
    exact hfin
  | k + 1, i, hk => fun v I oI C oC D m₂ h tk E' hP hC hm F N off d => by
    have hn := take_succ_filter p items.toList i v (by simpa using hP)
    have rest := compRestT_filt (pe := pe) p hS hfin hkind hx hd htest k (i + 1) (by omega)
    refine wpAny_mono (htest i v _ I oI C oC D m₂ h tk E' hP hC hm F N) (fun ok s' q => ?_) fun _ _ e => e
    obtain ⟨rfl, h', tk', rfl, F', N'⟩ := q
    cases hp : p v with
    | false =>
      simp only [Bool.false_eq_true, if_false]
      rw [hp] at hn
      simp only [Bool.false_eq_true, if_false, List.append_nil] at hn
      exact ⟨h', tk', news, rfl, F', N', off, hS, hn ▸ rest⟩
    | true =>
      simp only [if_true]
      rw [hp] at hn
      simp only [if_true] at hn
      rw [hn] at rest
      refine LCgL.ld_own N' (.tail _ (.head _)) hC hm ?_ (by simp [compEnvC, relabel, hkind]) (lookup_relabel_local hx) hd
      exact ⟨h', tk', news, rfl, F', N', off, hS, rest⟩

theorem ListComp_filt {ct iter : Expr} {x : Str} {px pe : Pos} {scope : Scope} {cl : List (Str × Addr)} {pos : Pos} {Q : Value → Shared → Prop} {ax : Addr} {items : Array Value} {n : Nat} {news : List (Addr × Obj)} (p : Value → Bool)
    (F : Fr h₀ L s.heap m) (N : News h₀ L s.heap news) (hh : A.handled = none)
    (hev : ∀ Q' : Value → Shared → Prop, Q' (.ref ax) s → wpAny (model prog w) A (eval iter env) Q' E s)
    (ht : (ax, W.listOf items n) ∈ news) (hsz : items.size ≤ sizeLine)
    (hclos : closureFor scope env = pure cl) (hcell : ∀ y ∈ scope.names, y.2 ≠ .cell) (hkind : scope.kind = .function)
    (hnames : ∀ y ∈ scope.names, y.2 = .local → scope.names.lookup y.1 = some .local) (hx : scope.names.lookup x = some .local) (hd : (x == ("__debug__" : Str)) = false) (hs : ∀ x, foldedSetIterable iter env x = pure x)
    (htest : ∀ (i : Nat) (v : Value) (ys : List Value) (I : Addr) (oI : Obj) (C : Addr) (oC : Obj) (D : Addr) (m₂ : Str → Option Value) (h : Heap) (tk : Nat) (E' : Value → Shared → Prop), items[i]? = some v → NsObj oC m₂ → m₂ x = some v → Fr h₀ L h m → News h₀ L h ((I, oI) :: (C, oC) :: (D, lst ys) :: news) →
      wpAny (model prog w) A (isTrue ct (compEnvC scope cl C env) (eval ct (compEnvC scope cl C env))) (TestIs h₀ L m { s with heap := h, toks := tk } ((I, oI) :: (C, oC) :: (D, lst ys) :: news) (p v)) E' { s with heap := h, toks := tk })
    (fin : ∀ D h tk, Fr h₀ L h m → News h₀ L h ((D, lst (items.toList.filter p)) :: news) → Off1 D news → Q (.ref D) { s with heap := h, toks := tk }) :
    wpAny (model prog w) A (eval (.ListComp (.Name x pe) [⟨.Name x px, iter, [ct], 0⟩] scope pos) env) Q E s := by
  rw [eval_ListComp]
  refine wpAny_comprehension_free (use := none) rfl hs hclos hkind hnames (hev _ ?_)
  have rr : ∀ s₂ : Shared, (∃ h, s₂ = { s with heap := h }) → ∀ D C h tk m' ys news', Fr h₀ L h m → News h₀ L h ((D, lst ys) :: news') → Off1 D news' → h.Ns C m' → h₀.get? C = none → h₀.get? D = none → C ≠ L → D ≠ L → C ≠ D → (∀ p ∈ news', p.1 ≠ C) → (fun ys nw => ys = items.toList.filter p ∧ nw = news) ys news' →
      compPost (model prog w) A E none Q (.ref D) C (.ok .next) { s₂ with heap := h, toks := tk } := by
    rintro _ ⟨h1, rfl⟩ D C h tk m' ys news' F' N' o1 hn hC₀ hD₀ hCL hDL hCD offC ⟨rfl, rfl⟩
    refine ⟨m', hn, fun h'' hs'' => fin D h'' tk (F'.change hs'' hCL hC₀) (fun p hp => ?_) o1⟩
    refine ⟨hs''.extBut _ _ ?_ (N' p hp).1, (N' p hp).2⟩
    rcases List.mem_cons.mp hp with rfl | hp
    · exact Ne.symm hCD
    · exact offC p hp
  have hl : s.heap.IsList ax items := ⟨_, (N _ ht).1, rfl, n, rfl⟩
  have hlt : ax < s.heap.objs.size := Heap.lt_size (N _ ht).1
  refine wpAny_pyIter_list hl ?_
  have up : ∀ b o, s.heap.get? b = some o → (s.heap.push { cls := .type "list_iterator", data := .fields #[.ref ax, .int 0 0] }).get? b = some o := fun b o e => Heap.get?_push_of_some _ e
  refine block_T (S := fun nw => (ax, W.listOf items n) ∈ nw) (Fin := fun ys nw => ys = items.toList.filter p ∧ nw = news) (Walks.list hh s.heap.objs.size ax (Nat.ne_of_lt hlt) items) hsz (fun i h st => by obtain ⟨o, e, _⟩ := st.1; exact ⟨o, e⟩)
    (fun i h h' o nw st e e' k N S => ⟨by obtain ⟨o', q, r⟩ := st.1; rw [e] at q; cases q; exact ⟨o, e', r⟩, ⟨_, (N _ S).1, rfl, n, rfl⟩⟩) hcell hkind hx ⟨⟨_, Heap.get?_push_size _ rfl, rfl, rfl⟩, hl.at fun o e => up _ o e⟩ (fun b hb => ?_)
    (F.keeps up) (N.grown up) (Nat.ne_of_lt F.ns.lt) (next_is_new F) (fun p hp => Nat.ne_of_lt (Heap.lt_size (N p hp).1)) ht (compRestT_filt (s := { s with heap := s.heap.push _ }) (S := fun nw => (ax, W.listOf items n) ∈ nw) (Fin := fun ys nw => ys = items.toList.filter p ∧ nw = news) p ht (And.intro rfl rfl) hkind hx hd (fun i v ys I oI C oC D m₂ h tk E' hP hC hm F' N' => htest i v ys I oI C oC D m₂ h tk E' hP hC hm F' N') items.size 0 (by omega)) (rr _ ⟨_, rfl⟩)
  show b < (s.heap.push _).objs.size
  rw [Heap.size_push]
  rcases List.mem_cons.mp hb with rfl | hb
  · exact Nat.lt_succ_self _
  · rw [List.mem_singleton.mp hb]; exact Nat.lt_succ_of_lt hlt
end
end Mine
end
section
open PySem PySem.W PyProof.Rows PySem.Calls
set_option maxRecDepth 100000
set_option maxHeartbeats 8000000
set_option rowWalk.seconds 0
namespace Mine
local macro_rules | `(tactic| k_room) => `(tactic| ((try simp only [depth_under_make, depth_under_kw, depth_in1, depth_deeper, depth_caller]); first | decide | omega | (simp only [recursionLimit] at *; omega)))
local macro_rules | `(tactic| walk_at "call builtin:_operator.index") => `(tactic| refine call_index_int ?_)
local macro_rules | `(tactic| walk_at "exec Raise some none") => `(tactic| (k_here; (with_reducible show wpAny _ _ (exec (Stmt.Raise (some (Expr.Call (Expr.Name ("ValueError" : Str) _) (_ :: _) [] _)) none _) _) _ _ _); (with_reducible rename Fr _ _ _ _ => kF); k_dflt (refine' Raise_madeB PySem.F.excCall_ValueError PySem.F.excRaise_ValueError ?hh ?_; (case hh => first | rfl | assumption); (refine' name_B kF ?k1 ?k2 ?k3 ?k4 ?k5 ?_; (case k1 => k_asm); (case k2 => k_asm); (case k3 => k_is); (case k4 => boot_by_name); (case k5 => decide); k_whole; refine ⟨rfl, ?_⟩))))
local macro_rules | `(tactic| walk_at "mem tail") => `(tactic| (intro p hp; repeat (first | exact hp | refine List.Mem.tail _ ?_)))
section
variable {w : World} {A A₀ : Around} {E : Value → Shared → Prop} {s : Shared} {L : Addr} {h₀ base : Heap} {m mg mb : Str → Option Value} {news : List (Addr × Obj)} {p : Program} {loose : List Str} {mean : ExcName → Option Value} {Q : Value → Shared → Prop} {env : Env} {outer : List Env}

def w5 : List Str := ["hour must be in 0..23", "minute must be in 0..59", "second must be in 0..59", "microsecond must be in 0..999999", "fold must be either 0 or 1"]
theorem raisedK_sub {base G h : Heap} {l : List Env} {e t : Addr} {cls : Value} {vs : List Value} {nw nw' : List (Addr × Obj)} (R : RaisedS base G l e cls t vs nw h) (hs : ∀ p ∈ nw', p ∈ nw) : RaisedS base G l e cls t vs nw' h :=
  ⟨let ⟨B, a, b, c, d⟩ := R.1; ⟨B, a, b, fun q hq => c q (hs q hq), d⟩, R.2⟩

theorem ctf (B : Below A₀ base outer h₀) (F : Fr h₀ L s.heap m) (X : (hd.heap_39 w.params).In h₀) (N : News h₀ L s.heap news) (T : Top p loose mean mg mb h₀) (hA : A.frames = some (env :: outer)) (hf : env.frame = some L) (hke : env.scope.kind = .function)
  (hkd : KtsDicts (outer.filterMap (·.frame)) h₀) (hroom : A.depth + 10 < recursionLimit) (hh : A.handled = none) (hu : A.units + 10 < cLine) {a b c d e : Int} {t1 t2 t3 t4 t5 : Tok}
  (hok : ∀ h' D tk, bad5 a b c d e = 5 → Fr h₀ L h' m → News h₀ L h' ((D, { cls := .type "tuple", data := .seq #[.int a t1, .int b t2, .int c t3, .int d t4, .int e t5] }) :: news) → AllLt D news → Q (.ref D) { s with heap := h', toks := tk })
  (hbad : ∀ k x g h' e' t tk tk' tx, bad5 a b c d e = k → k < 5 → [a, b, c, d, e][k]? = some x → Fr h₀ L g m → RaisedS base g (env :: outer) e' (.type "ValueError") t [.str (w5.getD k "") tk', .int x tx] news h' → g.UpToSlots h' → E (.ref e') { s with heap := h', toks := tk }) :
  wpAny (model PySem.Challenge.rw_km0086_01.row.prog w) A (call (.ref 39) [.int a t1, .int b t2, .int c t3, .int d t4, .int e t5]) Q E s := by
  w_top off
  refine wpAny_call ?_
  refine' code_def B F X N T hA hf hke ?k6 ?k7 ?k8 ?k9 ?kB ?_ ?c2 ?c3 ?c4 ?c5
  case k6 => k_is
  case k7 => k_is
  case k8 => k_room
  case k9 => exact BindsTo.of_eq rfl
  case kB => exact locs rfl
  case c2 => exact rfl
  case c3 => exact rfl
  case c4 => exact rfl
  case c5 => decide
  intro g' L' h' FG' F' N' B' X' T'
  have hlt := fun p hp => Heap.lt_size (N' p hp).1
  (try dsimp only)
  k_steps
  · (with_reducible rename Fr h₀ L _ m => F3)
    (with_reducible rename News h₀ L _ _ => N3)
    rename (List.any _ _ = true) => hfo
    have hfo' : e = 0 ∨ e = 1 := by
      simp only [List.any_cons, List.any_nil, Bool.or_false, Bool.or_eq_true, beq_iff_eq] at hfo
      omega
    refine hok _ _ _ ?_ F3 (news_sub N3 ?_) (by first | assumption | exact And.right (by assumption))
    · unfold bad5
      repeat' split
      all_goals omega
    · exact List.forall_mem_cons.mpr ⟨.head _, fun p hp => .tail _ (.tail _ hp)⟩
  · (with_reducible rename RaisedS _ _ _ _ _ _ _ _ _ => R3)
    (with_reducible rename Heap.UpToSlots _ _ => U3)
    rename (List.any _ _ = false) => hfo
    have hfo' : ¬ (e = 0 ∨ e = 1) := by
      simp only [List.any_cons, List.any_nil, Bool.or_false, Bool.or_eq_false_iff, beq_eq_false_iff_ne, ne_eq] at hfo
      omega
    refine hbad 4 e _ _ _ _ _ _ _ ?_ (by decide) rfl FG' (raisedK_sub R3 ?_) U3
    · unfold bad5
      repeat' split
      all_goals omega
    · walk_at "mem tail"
  all_goals
    (with_reducible rename RaisedS _ _ _ _ _ _ _ _ _ => R3)
    (with_reducible rename Heap.UpToSlots _ _ => U3)
  · refine hbad 3 d _ _ _ _ _ _ _ ?_ (by decide) rfl FG' R3 U3
    unfold bad5
    repeat' split
    all_goals omega
  · refine hbad 3 d _ _ _ _ _ _ _ ?_ (by decide) rfl FG' R3 U3
    unfold bad5
    repeat' split
    all_goals omega
  · refine hbad 2 c _ _ _ _ _ _ _ ?_ (by decide) rfl FG' R3 U3
    unfold bad5
    repeat' split
    all_goals omega
  · refine hbad 2 c _ _ _ _ _ _ _ ?_ (by decide) rfl FG' R3 U3
    unfold bad5
    repeat' split
    all_goals omega
  · refine hbad 1 b _ _ _ _ _ _ _ ?_ (by decide) rfl FG' R3 U3
    unfold bad5
    repeat' split
    all_goals omega
  · refine hbad 1 b _ _ _ _ _ _ _ ?_ (by decide) rfl FG' R3 U3
    unfold bad5
    repeat' split
    all_goals omega
  · refine hbad 0 a _ _ _ _ _ _ _ ?_ (by decide) rfl FG' R3 U3
    unfold bad5
    repeat' split
    all_goals omega
  · refine hbad 0 a _ _ _ _ _ _ _ ?_ (by decide) rfl FG' R3 U3
    unfold bad5
    repeat' split
    all_goals omega
end
end Mine
end
section
open PySem PySem.W PyProof.Rows PySem.Calls
set_option maxRecDepth 100000
set_option maxHeartbeats 8000000
set_option rowWalk.seconds 0
namespace Mine
local macro_rules | `(tactic| k_room) => `(tactic| ((try simp only [depth_under_make, depth_under_kw, depth_in1, depth_deeper, depth_caller]); first | decide | omega | (simp only [recursionLimit] at *; omega)))
local macro_rules | `(tactic| walk_at "my stop") => `(tactic| ((fail_if_success (with_reducible show wpAny _ _ (pyIter _) (fun it s₂ => LoopAtV _ _ _ _ _ _ _ _ _ it s₂) _ _)); (fail_if_success (with_reducible show wpAny _ _ (exec (Stmt.While _ _ _ _) _) _ _ _)); skip))
local macro_rules | `(tactic| k_steps) => `(tactic| repeat' (first | (k_unfold; (try dsimp only)) | (k_end; wrow_close) | (walk_at "my stop"; walk1) | (walk_at "my stop"; dsimp only; walk1) | (leave1; walk_say "STEP leave1"; try dsimp only) | fail "no step"))
local macro_rules | `(tactic| walk_at "mem tail") => `(tactic| (intro p hp; repeat (first | exact hp | refine List.Mem.tail _ ?_)))
local macro_rules | `(tactic| walk_at "mem all") => `(tactic| repeat' (first | exact List.forall_mem_nil _ | (refine List.forall_mem_cons.mpr ⟨?_, ?_⟩) | k_mem | walk_at "mem tail"))
local macro_rules | `(tactic| walk_at "off all") => `(tactic| repeat' (first | exact List.forall_mem_nil _ | (refine List.forall_mem_cons.mpr ⟨?_, ?_⟩) | k_ne))
local macro_rules | `(tactic| k_all) => `(tactic| assumption)
local macro_rules | `(tactic| walk_at "binaryOp Mult int int") => `(tactic| ((with_reducible refine mul_int ?_ (by first | exact PySem.IntMulOk.of_right (PySem.intBits_le_64 (by omega) (by omega)) | exact PySem.IntMulOk.of_left (PySem.intBits_le_64 (by omega) (by omega)))); (try dsimp only)))
section
variable {w : World} {A A₀ : Around} {E : Value → Shared → Prop} {s : Shared} {L : Addr} {h₀ base : Heap} {m mg mb : Str → Option Value} {news : List (Addr × Obj)} {p : Program} {loose : List Str} {mean : ExcName → Option Value} {Q : Value → Shared → Prop} {env : Env} {outer : List Env}
def dt (p : Nat × Int) : Dat := .tuple [.int (p.1 : Int), .int p.2]
theorem map_but1 {y : Str} {v : Option Value} {ys : List Str} {m m₀ : Str → Option Value} (h1 : m y = v) (h : ∀ z, z ∉ ys → m z = m₀ z) : m = fun z => if z = y then v else if z ∈ ys then m z else m₀ z := by
  funext z; by_cases hy : z = y
  · simp only [if_pos hy]; rw [hy]; exact h1
  · by_cases hz : z ∈ ys
    · simp only [if_neg hy, if_pos hz]
    · simp only [if_neg hy, if_neg hz]; exact h z hz
theorem map_but3 {x y u : Str} {v1 v2 v3 : Option Value} {ys : List Str} {m m₀ : Str → Option Value} (h1 : m x = v1) (h2 : m y = v2) (h3 : m u = v3) (h : ∀ z, z ∉ ys → m z = m₀ z) : m = fun z => if z = x then v1 else if z = y then v2 else if z = u then v3 else if z ∈ ys then m z else m₀ z := by
  funext z; by_cases hx : z = x
  · simp only [if_pos hx]; rw [hx]; exact h1
  · by_cases hy : z = y
    · simp only [if_neg hx, if_pos hy]; rw [hy]; exact h2
    · by_cases hu : z = u
      · simp only [if_neg hx, if_neg hy, if_pos hu]; rw [hu]; exact h3
      · by_cases hz : z ∈ ys
        · simp only [if_neg hx, if_neg hy, if_neg hu, if_pos hz]
        · simp only [if_neg hx, if_neg hy, if_neg hu, if_neg hz]; exact h z hz
theorem casc_step {q : Nat} {o n : Int} (h : o.fdiv (sz q) ≠ n.fdiv (sz q)) : casc (q + 1) o n = (q, o.fmod (sz q) + n - o) :: casc q (o.fdiv (sz q)) (n.fdiv (sz q)) := by
  have h0 : 0 ≤ sz q := by unfold sz; split <;> decide
  rw [Int.fdiv_eq_ediv_of_nonneg _ h0, Int.fdiv_eq_ediv_of_nonneg _ h0] at h ⊢
  rw [Int.fmod_eq_emod_of_nonneg _ h0]
  show (if _ then _ else _) = _
  rw [if_neg h]
theorem casc_stop {q : Nat} {o n : Int} (h : o.fdiv (sz q) = n.fdiv (sz q)) : casc (q + 1) o n = [] := by
  have h0 : 0 ≤ sz q := by unfold sz; split <;> decide
  rw [Int.fdiv_eq_ediv_of_nonneg _ h0, Int.fdiv_eq_ediv_of_nonneg _ h0] at h
  show (if _ then _ else _) = _
  rw [if_pos h]
theorem dueTo_le (l : List Int) : ∀ k, k ≤ 5 → (dueTo l k).length ≤ 5 * k
  | 0, _ => Nat.le_refl _
  | k + 1, h => by
    have := dueTo_le l k (by omega)
    have := casc_len (k + 1) (countTo l k * sz k) (countTo l k * sz k + l.getD k 0)
    show (dueTo l k ++ casc (k + 1) (countTo l k * sz k) (countTo l k * sz k + l.getD k 0)).length ≤ _
    rw [List.length_append]
    omega
theorem getD_sz {i : Nat} {zi : Int} (h : zi = (i : Int)) (h5 : i < 5) : ([24, 60, 60, 1000000, 2] : List Int).getD zi.toNat 0 = sz i := by
  subst h
  have h5 : i = 0 ∨ i = 1 ∨ i = 2 ∨ i = 3 ∨ i = 4 := by omega
  rcases h5 with h | h | h | h | h <;> subst h <;> rfl
theorem datAll_push {nw nw' : List (Addr × Obj)} {refs : Array Value} {v : Value} {ds : List Dat} {d : Dat} (h : DatAll nw refs.toList ds) (hs : ∀ p ∈ nw, p ∈ nw') (hd : DatIn nw' v d) : DatAll nw' (refs.push v).toList (ds ++ [d]) := by
  rw [Array.toList_push]
  exact (h.mono hs).append (.one hd)
theorem dts_push {nw nw' : List (Addr × Obj)} {refs : Array Value} {v : Value} {ds : List (Nat × Int)} (x : Nat × Int) (h : DatAll nw refs.toList (ds.map dt)) (hs : ∀ p ∈ nw, p ∈ nw') (hd : DatIn nw' v (dt x)) : DatAll nw' (refs.push v).toList ((ds ++ [x]).map dt) := by
  rw [List.map_append]
  exact datAll_push h hs hd
theorem dts_keep {nw nw' : List (Addr × Obj)} (hk : ∀ p ∈ nw, p.2.cls = .type "tuple" → p ∈ nw') : ∀ {vs : List Value} {ds : List (Nat × Int)}, DatAll nw vs (ds.map dt) → DatAll nw' vs (ds.map dt)
  | _, [], h => by
    cases h
    exact .nil
  | _, (a, b) :: ds, h => by
    cases h with
    | cons h1 h2 =>
      refine .cons ?_ (dts_keep hk h2)
      cases h1 with
      | tuple hm h3 =>
        refine .tuple (hk _ hm rfl) ?_
        cases h3 with
        | cons g1 g2 =>
          cases g1
          cases g2 with
          | cons g3 g4 =>
            cases g3
            cases g4
            exact .cons (.int _ _) (.cons (.int _ _) .nil)
theorem allLt_mem {n : Nat} : ∀ {l : List (Addr × Obj)}, AllLt n l → ∀ p ∈ l, p.1 < n
  | [], _, _, h => nomatch h
  | _ :: _, x, p, h => by
    rcases List.mem_cons.mp h with rfl | h
    · exact x.1
    · exact allLt_mem x.2 p h

theorem refusals_call (B : Below A₀ base outer h₀) (F : Fr h₀ L s.heap m) (X : (hd.heap_39 w.params).In h₀) (N : News h₀ L s.heap news) (T : Top p loose mean mg mb h₀) (hA : A.frames = some (env :: outer)) (hf : env.frame = some L) (hke : env.scope.kind = .function)
  (hroom : A.depth + 10 < recursionLimit) (hh : A.handled = none) (hu : A.units + 10 < cLine) {l lz : Addr} {c cz : Nat} {a1 a2 a3 a4 a5 : Int} {t1 t2 t3 t4 t5 u1 u2 u3 u4 u5 : Tok}
  (hm : (l, W.listOf #[.int a1 t1, .int a2 t2, .int a3 t3, .int a4 t4, .int a5 t5] c) ∈ news) (hz : (lz, W.listOf #[.int 24 u1, .int 60 u2, .int 60 u3, .int 1000000 u4, .int 2 u5] cz) ∈ news)
  (hok : ∀ h' tk T tc D refs cD nw', Fr h₀ L h' m → News h₀ L h' nw' → (∀ p ∈ news, p ∈ nw') → (∀ p ∈ news, p.1 ≠ D) → (D, W.listOf refs cD) ∈ nw' → DatAll nw' refs.toList ((dueTo [a1, a2, a3, a4, a5] 5).map dt) →
    (T, ({ cls := .type "tuple", data := .seq #[.ref D, .int (countTo [a1, a2, a3, a4, a5] 5) tc] } : Obj)) ∈ nw' → Q (.ref T) { s with heap := h', toks := tk }) :
  wpAny (model PySem.Challenge.rw_km0086_01.row.prog w) A (call (.ref 46) [.ref l, .ref lz]) Q E s := by
  w_top off
  refine wpAny_call ?_
  refine' code_def B F X N T hA hf hke ?k6 ?k7 ?k8 ?k9 ?kB ?_ ?c2 ?c3 ?c4 ?c5
  case k6 => k_is
  case k7 => k_is
  case k8 => k_room
  case k9 => exact BindsTo.of_eq rfl
  case kB => exact locs rfl
  case c2 => exact rfl
  case c3 => exact rfl
  case c4 => exact rfl
  case c5 => decide
  intro g' L' h' FG' F' N' B' X' T'
  have hlt := fun p hp => Heap.lt_size (N' p hp).1
  have N1 := news_cons (news_cons N' hm) (.tail _ hz)
  (try dsimp only)
  k_steps
  rename (_ < _ ∧ _ < _ ∧ AllLt _ news) => l1
  rename IsRange _ _ _ _ _ _ _ _ => R1
  rename News _ _ _ _ => N2
  rename Fr _ _ _ _ => F2
  refine nm1 N2 ?_
  intro D e1
  subst e1
  refine nmF F2 ?_
  intro m₀ em
  refine nmT N2 ?_
  intro rest0 er
  refine j_range 5 (fun i m nw => ∃ (rest : List (Addr × Obj)) (refs : Array Value) (cD : Nat) (tc : Tok), nw = (D, W.listOf refs cD) :: rest ∧ (∀ p ∈ rest, p.1 ≠ D) ∧ (∀ p ∈ rest0, p ∈ rest) ∧ DatAll rest refs.toList ((dueTo [a1, a2, a3, a4, a5] i).map dt) ∧
    (∀ z, z ∉ (["k", "old", "new", "place", "count"] : List Str) → m z = m₀ z) ∧ m ("count" : Str) = some (.int (countTo [a1, a2, a3, a4, a5] i) tc)) hh R1 (by decide) (by decide) F2 N2 ?_ ?_ ?_
  · subst em er
    refine ⟨_, #[], 0, _, rfl, ?_, fun _ h => h, .nil, fun _ _ => rfl, rfl⟩
    have q0 := news_lt N2
    simp only [AllLt] at q0
    intro p hp
    rcases List.mem_cons.mp hp with rfl | hp
    · exact Nat.ne_of_lt l1.1
    · rcases List.mem_cons.mp hp with rfl | hp
      · exact Nat.ne_of_lt l1.2.1
      · exact Nat.ne_of_lt ((allLt_mem l1.2.2) p hp)
  · rintro i t m₁ nw h tk I oI hi ⟨rest, refs, cD, tc, rfl, hD, hsub, hd, hm1, hc1⟩ hoff F3 N3
    obtain ⟨zi, hzi⟩ : ∃ zi : Int, zi = 0 + (i : Int) * 1 := ⟨_, rfl⟩
    rw [← hzi] at F3
    have em₁ := map_but1 hc1 hm1
    rw [em₁] at F3
    clear em₁
    subst er em
    dsimp only [envOfC] at F3 N3
    have N4 := news_cons (news_cons N3 (.tail _ (.tail _ (hsub _ (.head _))))) (.tail _ (.tail _ (.tail _ (hsub _ (.tail _ (.head _))))))
    obtain ⟨C, hC⟩ : ∃ C, C = countTo [a1, a2, a3, a4, a5] i := ⟨_, rfl⟩
    rw [← hC] at F3
    have hDI : @Ne Nat D I := hoff _ (.head _)
    have hlt' := news_lt N4
    simp only [AllLt] at hlt'
    clear N2 N3 F2 R1 hlt
    have hzi' : zi = (i : Int) := by omega
    have hz0 : 0 ≤ zi := by omega
    have hz5 : zi < 5 := by omega
    have hsz : (0 : Int) ≤ [24, 60, 60, 1000000, 2].getD zi.toNat 0 ∧ [24, 60, 60, 1000000, 2].getD zi.toNat 0 ≤ (1000000 : Int) := by
      have h5 : zi = 0 ∨ zi = 1 ∨ zi = 2 ∨ zi = 3 ∨ zi = 4 := by omega
      rcases h5 with h | h | h | h | h <;> subst h <;> exact ⟨by decide, by decide⟩
    clear hzi
    have hcnt : C * [24, 60, 60, 1000000, 2].getD zi.toNat 0 + [a1, a2, a3, a4, a5].getD zi.toNat 0 = countTo [a1, a2, a3, a4, a5] (i + 1) := by
      have e : ([a1, a2, a3, a4, a5] : List Int).getD zi.toNat 0 = ([a1, a2, a3, a4, a5] : List Int).getD i 0 := by rw [hzi', Int.toNat_natCast]
      rw [e, hC, getD_sz hzi' (by omega)]
      rfl
    · 
      k_steps
      (with_reducible rename Fr _ _ _ _ => F5)
      (with_reducible rename News _ _ _ _ => N5)
      (refine nmF F5 ?_)
      intro m2 em2
      clear N4 F3 hlt'
      refine While_inv2 (n₀ := i + 1) (fun n m nw => ∃ (o nn : Int) (to tn tp : Tok) (ds : List (Nat × Int)) (refs : Array Value) (cD : Nat) (rest' : List (Addr × Obj)), nw = (I, oI) :: (D, W.listOf refs cD) :: rest' ∧ (∀ p ∈ rest', p.1 ≠ D ∧ p.1 ≠ I) ∧ (∀ p ∈ rest, p ∈ rest') ∧ DatAll rest' refs.toList (ds.map dt) ∧
        ds ++ casc n o nn = dueTo [a1, a2, a3, a4, a5] (i + 1) ∧ n ≤ 5 ∧ (∀ z, z ∉ (["old", "new", "place"] : List Str) → m z = m2 z) ∧ m ("old" : Str) = some (.int o to) ∧ m ("new" : Str) = some (.int nn tn) ∧ ∃ zp : Int, zp = (n : Int) - 1 ∧ m ("place" : Str) = some (.int zp tp)) F5 (news_sub N5 fun p hp => .tail _ (.tail _ hp)) ?_ ?_
      · subst em2
        refine ⟨_, _, _, _, _, _, _, _, _, rfl, ?_, fun _ h => h, hd, ?_, ?_, fun _ _ => rfl, rfl, rfl, zi, ?_, rfl⟩
        · intro p hp
          exact ⟨hD p hp, hoff p (.tail _ hp)⟩
        · rw [hC, getD_sz hzi' (by omega)]
          have e : ([a1, a2, a3, a4, a5] : List Int).getD zi.toNat 0 = ([a1, a2, a3, a4, a5] : List Int).getD i 0 := by rw [hzi', Int.toNat_natCast]
          rw [e]
          rfl
        · omega
        · omega
      rintro n m3 nw h3 tk3 F6 N6 ⟨o, nn, to, tn, tp, ds, refs3, cD3, rest3, rfl, hD3, hsub3, hd3, hc3, hn3, hm3, ho3, hnn3, zp, hzp, hp3⟩
      have em₁ := map_but3 ho3 hnn3 hp3 hm3
      rw [em₁] at F6
      clear em₁
      subst em2
      have N7 := news_cons (news_cons N6 (.tail _ (.tail _ (hsub3 _ (hsub _ (.head _)))))) (.tail _ (.tail _ (.tail _ (hsub3 _ (hsub _ (.tail _ (.head _)))))))
      have hrs : refs3.size ≤ 25 := by
        have q1 := hd3.length
        have q2 := congrArg List.length hc3
        have q3 := dueTo_le [a1, a2, a3, a4, a5] (i + 1) (by omega)
        rw [List.length_append] at q2
        rw [List.length_map, Array.length_toList] at q1
        omega
      have hD3a : ∀ p ∈ rest3, p.1 ≠ D := fun p hp => (hD3 p hp).1
      have hD3b : ∀ p ∈ rest3, p.1 ≠ I := fun p hp => (hD3 p hp).2
      have hld : @Ne Nat l D := hD3a _ (hsub3 _ (hsub _ (.tail _ (.head _))))
      have hlzd : @Ne Nat lz D := hD3a _ (hsub3 _ (hsub _ (.head _)))
      have hli : @Ne Nat l I := hD3b _ (hsub3 _ (hsub _ (.tail _ (.head _))))
      have hlzi : @Ne Nat lz I := hD3b _ (hsub3 _ (hsub _ (.head _)))
      have hlt' := news_lt N7
      simp only [AllLt] at hlt'
      clear N5 N6 F5
      have hn' : n = 0 ∨ n = 1 ∨ n = 2 ∨ n = 3 ∨ n = 4 ∨ n = 5 := by omega
      rcases hn' with rfl | rfl | rfl | rfl | rfl | rfl
      · obtain rfl : zp = -1 := hzp
        k_steps
        (with_reducible rename Fr g' L' _ _ => FE)
        (with_reducible rename News g' L' _ _ => NE)
        dsimp only [JPost]
        have hdu : ds = dueTo [a1, a2, a3, a4, a5] (i + 1) := by
          rw [← hc3]
          exact (List.append_nil _).symm
        refine' JEnd.intro ((D, W.listOf refs3 cD3) :: rest3) FE NE ?hI ?hn ?ho ⟨rest3, refs3, cD3, _, rfl, hD3a, fun p hp => hsub3 p (hsub p hp), hdu ▸ hd3, ?h1, ?h2⟩
        case hI => k_mem
        case hn => walk_at "mem all"
        case ho => exact List.forall_mem_cons.mpr ⟨hDI, hD3b⟩
        case h2 => rw [← hcnt]; rfl
        case h1 =>
          intro z hz
          simp only [List.mem_cons, List.not_mem_nil, or_false, not_or] at hz
          simp only [hz.1, hz.2.1, hz.2.2.1, hz.2.2.2.1, hz.2.2.2.2, if_false, List.mem_cons, List.not_mem_nil, or_false]
          try rfl
      · obtain rfl : zp = 0 := hzp
        k_steps
        · (with_reducible rename Fr g' L' _ _ => FE)
          (with_reducible rename News g' L' _ _ => NE)
          rename (_ < _ ∧ _ < _ ∧ _ < _ ∧ _ < _ ∧ AllLt _ rest3) => l1
          rename Int.fdiv _ _ ≠ _ => hne
          have hne' : o.fdiv (sz 0) ≠ nn.fdiv (sz 0) := hne
          refine nm1o NE ?_
          intro Tn on e1 e2
          subst e1
          rw [← e2] at NE
          obtain ⟨q1, q2, q3, q4, q5⟩ := l1
          refine ⟨_, _, _, (I, oI) :: (D, W.listOf (refs3.push (.ref Tn)) (cD3 + 1)) :: (Tn, on) :: rest3, 0, rfl, FE, news_sub NE ?_, by omega, _, _, _, _, _, ds ++ [(0, o.fmod (sz 0) + nn - o)], _, _, (Tn, on) :: rest3, rfl, ?_, ?_, dts_push (0, o.fmod (sz 0) + nn - o) hd3 (fun p hp => .tail _ hp) ?_, ?_, by omega, ?_, rfl, rfl, _, ?_, rfl⟩
          · walk_at "mem all"
          · exact List.forall_mem_cons.mpr ⟨⟨by k_ne, by k_ne⟩, hD3⟩
          · exact fun p hp => .tail _ (hsub3 p hp)
          · rw [e2]
            exact DatIn.tuple (n := 0) (.head _) (.cons (.int _ _) (.cons (.int _ _) .nil))
          · rw [← hc3, casc_step hne', List.append_assoc]
            rfl
          · intro z hz
            simp only [List.mem_cons, List.not_mem_nil, or_false, not_or] at hz
            simp only [hz.1, hz.2.1, hz.2.2, if_false, List.mem_cons, List.not_mem_nil, or_false]
            try rfl
          · rfl
        · (with_reducible rename Fr g' L' _ _ => FE)
          (with_reducible rename News g' L' _ _ => NE)
          dsimp only [JPost]
          rename Int.fdiv _ _ = _ => heq
          have heq' : o.fdiv (sz 0) = nn.fdiv (sz 0) := heq
          have hdu : ds = dueTo [a1, a2, a3, a4, a5] (i + 1) := by
            rw [← hc3, casc_stop heq']
            exact (List.append_nil _).symm
          refine' JEnd.intro ((D, W.listOf refs3 cD3) :: rest3) FE NE ?hI ?hn ?ho ⟨rest3, refs3, cD3, _, rfl, hD3a, fun p hp => hsub3 p (hsub p hp), hdu ▸ hd3, ?h1, ?h2⟩
          case hI => k_mem
          case hn => walk_at "mem all"
          case ho => exact List.forall_mem_cons.mpr ⟨hDI, hD3b⟩
          case h2 => rw [← hcnt]; rfl
          case h1 =>
            intro z hz
            simp only [List.mem_cons, List.not_mem_nil, or_false, not_or] at hz
            simp only [hz.1, hz.2.1, hz.2.2.1, hz.2.2.2.1, hz.2.2.2.2, if_false, List.mem_cons, List.not_mem_nil, or_false]
            try rfl
      · obtain rfl : zp = 1 := hzp
        k_steps
        · (with_reducible rename Fr g' L' _ _ => FE)
          (with_reducible rename News g' L' _ _ => NE)
          rename (_ < _ ∧ _ < _ ∧ _ < _ ∧ _ < _ ∧ AllLt _ rest3) => l1
          rename Int.fdiv _ _ ≠ _ => hne
          have hne' : o.fdiv (sz 1) ≠ nn.fdiv (sz 1) := hne
          refine nm1o NE ?_
          intro Tn on e1 e2
          subst e1
          rw [← e2] at NE
          obtain ⟨q1, q2, q3, q4, q5⟩ := l1
          refine ⟨_, _, _, (I, oI) :: (D, W.listOf (refs3.push (.ref Tn)) (cD3 + 1)) :: (Tn, on) :: rest3, 1, rfl, FE, news_sub NE ?_, by omega, _, _, _, _, _, ds ++ [(1, o.fmod (sz 1) + nn - o)], _, _, (Tn, on) :: rest3, rfl, ?_, ?_, dts_push (1, o.fmod (sz 1) + nn - o) hd3 (fun p hp => .tail _ hp) ?_, ?_, by omega, ?_, rfl, rfl, _, ?_, rfl⟩
          · walk_at "mem all"
          · exact List.forall_mem_cons.mpr ⟨⟨by k_ne, by k_ne⟩, hD3⟩
          · exact fun p hp => .tail _ (hsub3 p hp)
          · rw [e2]
            exact DatIn.tuple (n := 0) (.head _) (.cons (.int _ _) (.cons (.int _ _) .nil))
          · rw [← hc3, casc_step hne', List.append_assoc]
            rfl
          · intro z hz
            simp only [List.mem_cons, List.not_mem_nil, or_false, not_or] at hz
            simp only [hz.1, hz.2.1, hz.2.2, if_false, List.mem_cons, List.not_mem_nil, or_false]
            try rfl
          · rfl
        · (with_reducible rename Fr g' L' _ _ => FE)
          (with_reducible rename News g' L' _ _ => NE)
          dsimp only [JPost]
          rename Int.fdiv _ _ = _ => heq
          have heq' : o.fdiv (sz 1) = nn.fdiv (sz 1) := heq
          have hdu : ds = dueTo [a1, a2, a3, a4, a5] (i + 1) := by
            rw [← hc3, casc_stop heq']
            exact (List.append_nil _).symm
          refine' JEnd.intro ((D, W.listOf refs3 cD3) :: rest3) FE NE ?hI ?hn ?ho ⟨rest3, refs3, cD3, _, rfl, hD3a, fun p hp => hsub3 p (hsub p hp), hdu ▸ hd3, ?h1, ?h2⟩
          case hI => k_mem
          case hn => walk_at "mem all"
          case ho => exact List.forall_mem_cons.mpr ⟨hDI, hD3b⟩
          case h2 => rw [← hcnt]; rfl
          case h1 =>
            intro z hz
            simp only [List.mem_cons, List.not_mem_nil, or_false, not_or] at hz
            simp only [hz.1, hz.2.1, hz.2.2.1, hz.2.2.2.1, hz.2.2.2.2, if_false, List.mem_cons, List.not_mem_nil, or_false]
            try rfl
      · obtain rfl : zp = 2 := hzp
        k_steps
        · (with_reducible rename Fr g' L' _ _ => FE)
          (with_reducible rename News g' L' _ _ => NE)
          rename (_ < _ ∧ _ < _ ∧ _ < _ ∧ _ < _ ∧ AllLt _ rest3) => l1
          rename Int.fdiv _ _ ≠ _ => hne
          have hne' : o.fdiv (sz 2) ≠ nn.fdiv (sz 2) := hne
          refine nm1o NE ?_
          intro Tn on e1 e2
          subst e1
          rw [← e2] at NE
          obtain ⟨q1, q2, q3, q4, q5⟩ := l1
          refine ⟨_, _, _, (I, oI) :: (D, W.listOf (refs3.push (.ref Tn)) (cD3 + 1)) :: (Tn, on) :: rest3, 2, rfl, FE, news_sub NE ?_, by omega, _, _, _, _, _, ds ++ [(2, o.fmod (sz 2) + nn - o)], _, _, (Tn, on) :: rest3, rfl, ?_, ?_, dts_push (2, o.fmod (sz 2) + nn - o) hd3 (fun p hp => .tail _ hp) ?_, ?_, by omega, ?_, rfl, rfl, _, ?_, rfl⟩
          · walk_at "mem all"
          · exact List.forall_mem_cons.mpr ⟨⟨by k_ne, by k_ne⟩, hD3⟩
          · exact fun p hp => .tail _ (hsub3 p hp)
          · rw [e2]
            exact DatIn.tuple (n := 0) (.head _) (.cons (.int _ _) (.cons (.int _ _) .nil))
          · rw [← hc3, casc_step hne', List.append_assoc]
            rfl
          · intro z hz
            simp only [List.mem_cons, List.not_mem_nil, or_false, not_or] at hz
            simp only [hz.1, hz.2.1, hz.2.2, if_false, List.mem_cons, List.not_mem_nil, or_false]
            try rfl
          · rfl
        · (with_reducible rename Fr g' L' _ _ => FE)
          (with_reducible rename News g' L' _ _ => NE)
          dsimp only [JPost]
          rename Int.fdiv _ _ = _ => heq
          have heq' : o.fdiv (sz 2) = nn.fdiv (sz 2) := heq
          have hdu : ds = dueTo [a1, a2, a3, a4, a5] (i + 1) := by
            rw [← hc3, casc_stop heq']
            exact (List.append_nil _).symm
          refine' JEnd.intro ((D, W.listOf refs3 cD3) :: rest3) FE NE ?hI ?hn ?ho ⟨rest3, refs3, cD3, _, rfl, hD3a, fun p hp => hsub3 p (hsub p hp), hdu ▸ hd3, ?h1, ?h2⟩
          case hI => k_mem
          case hn => walk_at "mem all"
          case ho => exact List.forall_mem_cons.mpr ⟨hDI, hD3b⟩
          case h2 => rw [← hcnt]; rfl
          case h1 =>
            intro z hz
            simp only [List.mem_cons, List.not_mem_nil, or_false, not_or] at hz
            simp only [hz.1, hz.2.1, hz.2.2.1, hz.2.2.2.1, hz.2.2.2.2, if_false, List.mem_cons, List.not_mem_nil, or_false]
            try rfl
      · obtain rfl : zp = 3 := hzp
        k_steps
        · (with_reducible rename Fr g' L' _ _ => FE)
          (with_reducible rename News g' L' _ _ => NE)
          rename (_ < _ ∧ _ < _ ∧ _ < _ ∧ _ < _ ∧ AllLt _ rest3) => l1
          rename Int.fdiv _ _ ≠ _ => hne
          have hne' : o.fdiv (sz 3) ≠ nn.fdiv (sz 3) := hne
          refine nm1o NE ?_
          intro Tn on e1 e2
          subst e1
          rw [← e2] at NE
          obtain ⟨q1, q2, q3, q4, q5⟩ := l1
          refine ⟨_, _, _, (I, oI) :: (D, W.listOf (refs3.push (.ref Tn)) (cD3 + 1)) :: (Tn, on) :: rest3, 3, rfl, FE, news_sub NE ?_, by omega, _, _, _, _, _, ds ++ [(3, o.fmod (sz 3) + nn - o)], _, _, (Tn, on) :: rest3, rfl, ?_, ?_, dts_push (3, o.fmod (sz 3) + nn - o) hd3 (fun p hp => .tail _ hp) ?_, ?_, by omega, ?_, rfl, rfl, _, ?_, rfl⟩
          · walk_at "mem all"
          · exact List.forall_mem_cons.mpr ⟨⟨by k_ne, by k_ne⟩, hD3⟩
          · exact fun p hp => .tail _ (hsub3 p hp)
          · rw [e2]
            exact DatIn.tuple (n := 0) (.head _) (.cons (.int _ _) (.cons (.int _ _) .nil))
          · rw [← hc3, casc_step hne', List.append_assoc]
            rfl
          · intro z hz
            simp only [List.mem_cons, List.not_mem_nil, or_false, not_or] at hz
            simp only [hz.1, hz.2.1, hz.2.2, if_false, List.mem_cons, List.not_mem_nil, or_false]
            try rfl
          · rfl
        · (with_reducible rename Fr g' L' _ _ => FE)
          (with_reducible rename News g' L' _ _ => NE)
          dsimp only [JPost]
          rename Int.fdiv _ _ = _ => heq
          have heq' : o.fdiv (sz 3) = nn.fdiv (sz 3) := heq
          have hdu : ds = dueTo [a1, a2, a3, a4, a5] (i + 1) := by
            rw [← hc3, casc_stop heq']
            exact (List.append_nil _).symm
          refine' JEnd.intro ((D, W.listOf refs3 cD3) :: rest3) FE NE ?hI ?hn ?ho ⟨rest3, refs3, cD3, _, rfl, hD3a, fun p hp => hsub3 p (hsub p hp), hdu ▸ hd3, ?h1, ?h2⟩
          case hI => k_mem
          case hn => walk_at "mem all"
          case ho => exact List.forall_mem_cons.mpr ⟨hDI, hD3b⟩
          case h2 => rw [← hcnt]; rfl
          case h1 =>
            intro z hz
            simp only [List.mem_cons, List.not_mem_nil, or_false, not_or] at hz
            simp only [hz.1, hz.2.1, hz.2.2.1, hz.2.2.2.1, hz.2.2.2.2, if_false, List.mem_cons, List.not_mem_nil, or_false]
            try rfl
      · obtain rfl : zp = 4 := hzp
        k_steps
        · (with_reducible rename Fr g' L' _ _ => FE)
          (with_reducible rename News g' L' _ _ => NE)
          rename (_ < _ ∧ _ < _ ∧ _ < _ ∧ _ < _ ∧ AllLt _ rest3) => l1
          rename Int.fdiv _ _ ≠ _ => hne
          have hne' : o.fdiv (sz 4) ≠ nn.fdiv (sz 4) := hne
          refine nm1o NE ?_
          intro Tn on e1 e2
          subst e1
          rw [← e2] at NE
          obtain ⟨q1, q2, q3, q4, q5⟩ := l1
          refine ⟨_, _, _, (I, oI) :: (D, W.listOf (refs3.push (.ref Tn)) (cD3 + 1)) :: (Tn, on) :: rest3, 4, rfl, FE, news_sub NE ?_, by omega, _, _, _, _, _, ds ++ [(4, o.fmod (sz 4) + nn - o)], _, _, (Tn, on) :: rest3, rfl, ?_, ?_, dts_push (4, o.fmod (sz 4) + nn - o) hd3 (fun p hp => .tail _ hp) ?_, ?_, by omega, ?_, rfl, rfl, _, ?_, rfl⟩
          · walk_at "mem all"
          · exact List.forall_mem_cons.mpr ⟨⟨by k_ne, by k_ne⟩, hD3⟩
          · exact fun p hp => .tail _ (hsub3 p hp)
          · rw [e2]
            exact DatIn.tuple (n := 0) (.head _) (.cons (.int _ _) (.cons (.int _ _) .nil))
          · rw [← hc3, casc_step hne', List.append_assoc]
            rfl
          · intro z hz
            simp only [List.mem_cons, List.not_mem_nil, or_false, not_or] at hz
            simp only [hz.1, hz.2.1, hz.2.2, if_false, List.mem_cons, List.not_mem_nil, or_false]
            try rfl
          · rfl
        · (with_reducible rename Fr g' L' _ _ => FE)
          (with_reducible rename News g' L' _ _ => NE)
          dsimp only [JPost]
          rename Int.fdiv _ _ = _ => heq
          have heq' : o.fdiv (sz 4) = nn.fdiv (sz 4) := heq
          have hdu : ds = dueTo [a1, a2, a3, a4, a5] (i + 1) := by
            rw [← hc3, casc_stop heq']
            exact (List.append_nil _).symm
          refine' JEnd.intro ((D, W.listOf refs3 cD3) :: rest3) FE NE ?hI ?hn ?ho ⟨rest3, refs3, cD3, _, rfl, hD3a, fun p hp => hsub3 p (hsub p hp), hdu ▸ hd3, ?h1, ?h2⟩
          case hI => k_mem
          case hn => walk_at "mem all"
          case ho => exact List.forall_mem_cons.mpr ⟨hDI, hD3b⟩
          case h2 => rw [← hcnt]; rfl
          case h1 =>
            intro z hz
            simp only [List.mem_cons, List.not_mem_nil, or_false, not_or] at hz
            simp only [hz.1, hz.2.1, hz.2.2.1, hz.2.2.2.1, hz.2.2.2.2, if_false, List.mem_cons, List.not_mem_nil, or_false]
            try rfl
  · rintro m' nw h tk ⟨rest, refs, cD, tc, rfl, hD, hsub, hd, hm1, hc1⟩ F3 N3
    have em₁ := map_but1 hc1 hm1
    rw [em₁] at F3
    clear em₁
    subst er em
    dsimp only [envOfC] at F3 N3
    have hlt' := news_lt N3
    simp only [AllLt] at hlt'
    clear N2 F2 R1 hlt
    (try dsimp only)
    k_steps
    (with_reducible rename Fr h₀ L _ m => FE)
    (with_reducible rename News h₀ L _ _ => NE)
    refine hok _ _ _ tc D refs cD _ FE NE ?_ ?_ (.tail _ (.head _)) (hd.mono ?_) (.head _)
    · exact fun p hp => .tail _ (.tail _ (hsub p (.tail _ (.tail _ hp))))
    · exact fun p hp => hD p (hsub p (.tail _ (.tail _ hp)))
    · exact fun p hp => .tail _ (.tail _ hp)
end
end Mine
end
section
open PySem PySem.W PyProof.Rows PySem.Calls
set_option maxRecDepth 100000
set_option maxHeartbeats 8000000
set_option rowWalk.seconds 0
namespace Mine
local macro_rules | `(tactic| k_room) => `(tactic| ((try simp only [depth_under_make, depth_under_kw, depth_in1, depth_deeper, depth_caller]); first | decide | omega | (simp only [recursionLimit] at *; omega)))
local macro_rules | `(tactic| walk_at "my stop") => `(tactic| ((fail_if_success (with_reducible show wpAny _ _ (pyIter _) (fun it s₂ => LoopAtV _ _ _ _ _ _ _ _ _ it s₂) _ _)); (fail_if_success (with_reducible show wpAny _ _ (exec (Stmt.While _ _ _ _) _) _ _ _)); (fail_if_success (with_reducible show wpAny _ _ (call (Value.ref _) _ _) _ _ _)); skip))
local macro_rules | `(tactic| k_steps) => `(tactic| repeat' (first | (k_unfold; (try dsimp only)) | (k_end; wrow_close) | (walk_at "my stop"; walk1) | (walk_at "my stop"; dsimp only; walk1) | (leave1; walk_say "STEP leave1"; try dsimp only) | fail "no step"))
local macro_rules | `(tactic| walk_at "mem tail") => `(tactic| (intro p hp; repeat (first | exact hp | refine List.Mem.tail _ ?_)))
local macro_rules | `(tactic| walk_at "mem all") => `(tactic| repeat' (first | exact List.forall_mem_nil _ | (refine List.forall_mem_cons.mpr ⟨?_, ?_⟩) | k_mem | walk_at "mem tail"))
local macro_rules | `(tactic| walk_at "off all") => `(tactic| repeat' (first | exact List.forall_mem_nil _ | (refine List.forall_mem_cons.mpr ⟨?_, ?_⟩) | k_ne))
local macro_rules | `(tactic| k_all) => `(tactic| assumption)
local macro_rules | `(tactic| walk_at "binaryOp Mult int int") => `(tactic| ((with_reducible refine mul_int ?_ (by first | exact PySem.IntMulOk.of_right (PySem.intBits_le_64 (by omega) (by omega)) | exact PySem.IntMulOk.of_left (PySem.intBits_le_64 (by omega) (by omega)))); (try dsimp only)))
local macro_rules | `(tactic| walk_at "exec Try") => `(tactic| (refine wpAny_Try_except ?_))
local macro_rules | `(tactic| walk_at "call builtin:len") => `(tactic| (k_here; (rename Got _ _ _ _ _ => gX); (with_reducible show wpAny _ _ (call (Value.builtin "len") [Value.ref _]) _ _ _); (refine' len_got2 ?k1 ?k2 ?_; (case k1 => k_asm); (case k2 => got_up))))
local macro_rules | `(tactic| walk_at "call builtin:list.index") => `(tactic| (k_here; (first
  | (refine' index_list_strs 0 ?k1 ?k2 ?k3 ?k4 ?k5 ?_; (case k1 => is_list); (case k2 => exact .cons _ _ (.cons _ _ (.cons _ _ (.cons _ _ (.cons _ _ .nil))))); (case k3 => exact Nat.le_of_ble_eq_true rfl); (case k4 => exact rfl); (case k5 => exact rfl))
  | (refine' index_list_strs 1 ?k1 ?k2 ?k3 ?k4 ?k5 ?_; (case k1 => is_list); (case k2 => exact .cons _ _ (.cons _ _ (.cons _ _ (.cons _ _ (.cons _ _ .nil))))); (case k3 => exact Nat.le_of_ble_eq_true rfl); (case k4 => exact rfl); (case k5 => exact rfl))
  | (refine' index_list_strs 2 ?k1 ?k2 ?k3 ?k4 ?k5 ?_; (case k1 => is_list); (case k2 => exact .cons _ _ (.cons _ _ (.cons _ _ (.cons _ _ (.cons _ _ .nil))))); (case k3 => exact Nat.le_of_ble_eq_true rfl); (case k4 => exact rfl); (case k5 => exact rfl))
  | (refine' index_list_strs 3 ?k1 ?k2 ?k3 ?k4 ?k5 ?_; (case k1 => is_list); (case k2 => exact .cons _ _ (.cons _ _ (.cons _ _ (.cons _ _ (.cons _ _ .nil))))); (case k3 => exact Nat.le_of_ble_eq_true rfl); (case k4 => exact rfl); (case k5 => exact rfl))
  | (refine' index_list_strs 4 ?k1 ?k2 ?k3 ?k4 ?k5 ?_; (case k1 => is_list); (case k2 => exact .cons _ _ (.cons _ _ (.cons _ _ (.cons _ _ (.cons _ _ .nil))))); (case k3 => exact Nat.le_of_ble_eq_true rfl); (case k4 => exact rfl); (case k5 => exact rfl)))))
local macro_rules | `(tactic| walk_at "subscriptTail Attribute Name Constant ref int") => `(tactic| (k_here; (rename Got _ _ _ _ _ => gX); refine item_tupleT (Got.isTup (by assumption) (by got_up)) (by omega) (by omega) (by rfl) (by rfl) ?_))
local macro_rules | `(tactic| walk_at "units") => `(tactic| ((try simp only [units_deeper, units_in1, units_caller, cLine_is]); first | decide | (simp only [cLine_is] at *; omega)))
section
variable {w : World} {A A₀ : Around} {E : Value → Shared → Prop} {s : Shared} {L : Addr} {h₀ base : Heap} {m mg mb : Str → Option Value} {news : List (Addr × Obj)} {p : Program} {loose : List Str} {mean : ExcName → Option Value} {Q : Value → Shared → Prop} {env : Env} {outer : List Env}

theorem steps_good {F G : List Int} {T : List (Nat × Int)} (h : Steps F T G) (k : bad5L F = 5) : T = [] ∧ F = G := by
  cases h with
  | nil => exact ⟨rfl, rfl⟩
  | cons h1 h2 _ _ => omega
theorem steps_bad {F G : List Int} {T : List (Nat × Int)} {k : Nat} {x : Int} (h : Steps F T G) (hG : bad5L G = 5) (h1 : bad5L F = k) (h2 : k < 5) (h3 : F[k]? = some x) : ∃ T', T = (k, x) :: T' ∧ Steps (mend F k) T' G := by
  cases h with
  | nil => omega
  | @cons _ _ q y T' g1 g2 g3 g4 =>
    have e : q = k := g1.symm.trans h1
    subst e
    have e2 : y = x := Option.some.inj (g3.symm.trans h3)
    subst e2
    exact ⟨T', rfl, g4⟩

theorem run_call (B : Below A₀ base [] h₀) (F : Fr h₀ L s.heap m) (X : (hd.heap_39 w.params).In h₀) (XB : (hd.heap_39 w.params).In base) (TB : Top p loose mean mg mb base) {cn : Str} {cs : Scope} {a : Addr} {ccd : Value} {l lz lw : Addr} {c cz cw : Nat} {a1 a2 a3 a4 a5 : Int} {t1 t2 t3 t4 t5 u1 u2 u3 u4 u5 v1 v2 v3 v4 v5 : Tok} {rest0 : List (Addr × Obj)}
  (N : News h₀ L s.heap ((l, W.listOf #[.int a1 t1, .int a2 t2, .int a3 t3, .int a4 t4, .int a5 t5] c) :: rest0)) (hl0 : ∀ p ∈ rest0, p.1 ≠ l) (T : Top p loose mean mg mb h₀) (hA : A.frames = some [envOf cn cs L a ccd]) (hck : cs.kind = .function)
  (hroom : A.depth + 20 < recursionLimit) (hh : A.handled = none) (hu : A.units + 20 < cLine)
  (hz : (lz, W.listOf #[.int 24 u1, .int 60 u2, .int 60 u3, .int 1000000 u4, .int 2 u5] cz) ∈ rest0)
  (hw : (lw, W.listOf #[.str "hour must be in 0..23" v1, .str "minute must be in 0..59" v2, .str "second must be in 0..59" v3, .str "microsecond must be in 0..999999" v4, .str "fold must be either 0 or 1" v5] cw) ∈ rest0)
  (hok : ∀ h' tk T D refs cD R d1 d2 d3 d4 d5 w1 w2 w3 w4 w5 nw', Fr h₀ L h' m → News h₀ L h' nw' → (∀ p ∈ rest0, p ∈ nw') → (D, W.listOf refs cD) ∈ nw' → DatAll nw' refs.toList ((dueTo [a1, a2, a3, a4, a5] 5).map dt) →
    digitsOf (countTo [a1, a2, a3, a4, a5] 5) = [d1, d2, d3, d4, d5] → (R, ({ cls := .type "tuple", data := .seq #[.int d1 w1, .int d2 w2, .int d3 w3, .int d4 w4, .int d5 w5] } : Obj)) ∈ nw' →
    (T, ({ cls := .type "tuple", data := .seq #[.ref D, .ref R] } : Obj)) ∈ nw' → Q (.ref T) { s with heap := h', toks := tk }) :
  wpAny (model PySem.Challenge.rw_km0086_01.row.prog w) A (call (.ref 53) [.ref l, .ref lz, .ref lw]) Q E s := by
  w_top off
  refine wpAny_call ?_
  refine' code_defS0 B F X N T hA ?k6 ?k7 ?k8 ?k9 ?kB ?_ hck ?c2 ?c3 ?c4 ?c5
  case k6 => k_is
  case k7 => k_is
  case k8 => k_room
  case k9 => exact BindsTo.of_eq rfl
  case kB => exact locs rfl
  case c2 => exact rfl
  case c3 => exact rfl
  case c4 => exact rfl
  case c5 => decide
  intro g' L' h' FG' F' N' B' X' T' D'
  have N1 := news_cons (news_cons N' (.tail _ hz)) (.tail _ (.tail _ hw))
  (try dsimp only)
  k_steps
  rename (_ < _ ∧ _ < _ ∧ _ < _ ∧ AllLt _ rest0) => l1
  rename News _ _ _ _ => N2
  rename Fr _ _ _ _ => F2
  refine nm1 N2 ?_
  intro D e1
  subst e1
  refine nmF F2 ?_
  intro m₀ em
  have N3 := news_sub (nw' := (l, W.listOf #[.int a1 t1, .int a2 t2, .int a3 t3, .int a4 t4, .int a5 t5] c) :: (D, W.listOf #[] 0) :: rest0) N2 (by walk_at "mem all")
  refine While_invG (n₀ := (dueTo [a1, a2, a3, a4, a5] 5).length) (fun n g m nw => KtsTurn ([envOf cn cs L a ccd].filterMap (·.frame)) g' g ∧ Below A base [envOf cn cs L a ccd] g ∧ (hd.heap_39 w.params).In g ∧ Top p loose mean mg mb g ∧ KtsDicts ([envOf cn cs L a ccd].filterMap (·.frame)) g ∧ ∃ (b1 b2 b3 b4 b5 : Int) (w1 w2 w3 w4 w5 : Tok) (cl : Nat) (ds todo : List (Nat × Int)) (refs : Array Value) (cD : Nat) (rest : List (Addr × Obj)), nw = (l, W.listOf #[.int b1 w1, .int b2 w2, .int b3 w3, .int b4 w4, .int b5 w5] cl) :: (D, W.listOf refs cD) :: rest ∧
    (∀ p ∈ rest, p.1 ≠ l ∧ p.1 ≠ D) ∧ (∀ p ∈ rest0, p ∈ rest) ∧ DatAll rest refs.toList (ds.map dt) ∧ Steps [b1, b2, b3, b4, b5] todo (digitsOf (countTo [a1, a2, a3, a4, a5] 5)) ∧ ds ++ todo = dueTo [a1, a2, a3, a4, a5] 5 ∧ n = todo.length ∧
    (∀ z, z ∉ (["fault", "place", "turns"] : List Str) → m z = m₀ z)) F2 N3 ?_ ?_
  · subst em
    refine ⟨KtsTurn.refl, B', X', T', D', a1, a2, a3, a4, a5, t1, t2, t3, t4, t5, c, [], _, #[], 0, rest0, rfl, ?_, fun _ h => h, .nil, run_all a1 a2 a3 a4 a5, rfl, rfl, fun _ _ => rfl⟩
    exact fun p hp => ⟨hl0 p hp, Nat.ne_of_lt (allLt_mem l1.2.2.2 p hp)⟩
  rintro n g3 m3 nw h3 tk3 F6 N6 ⟨K3, B3, X3, T3, D3, b1, b2, b3, b4, b5, w1, w2, w3, w4, w5, cl, ds, todo, refs3, cD3, rest3, rfl, hD3, hsub3, hd3, hst3, hc3, hn3, hm3⟩
  have em₁ := map_but _ hm3
  rw [em₁] at F6
  clear em₁
  subst em
  have N7 := news_cons (news_cons N6 (.tail _ (.tail _ (hsub3 _ hw)))) (.tail _ (.tail _ (.tail _ (hsub3 _ hz))))
  have hrs : refs3.size ≤ 15 := by
    have q1 := hd3.length
    have q2 := congrArg List.length hc3
    have q3 := dueTo_len [a1, a2, a3, a4, a5]
    rw [List.length_append] at q2
    rw [List.length_map, Array.length_toList] at q1
    omega
  have hD3a : ∀ p ∈ rest3, p.1 ≠ D := fun p hp => (hD3 p hp).2
  have hD3b : ∀ p ∈ rest3, p.1 ≠ l := fun p hp => (hD3 p hp).1
  have hzd : @Ne Nat lz D := hD3a _ (hsub3 _ hz)
  have hwd : @Ne Nat lw D := hD3a _ (hsub3 _ hw)
  have hzl : @Ne Nat lz l := hD3b _ (hsub3 _ hz)
  have hwl : @Ne Nat lw l := hD3b _ (hsub3 _ hw)
  have hlD : @Ne Nat l D := Nat.ne_of_lt l1.2.2.1
  have hlt' := news_lt N7
  simp only [AllLt] at hlt'
  clear N2 N3 N6 F2 D' T' X' B'
  k_steps
  (with_reducible rename Fr g3 _ _ _ => F8)
  (with_reducible rename News g3 _ _ _ => N8)
  refine ctf (a := b1) (b := b2) (c := b3) (d := b4) (e := b5) B3 F8 X3 N8 T3 (Around.frames_deeper B3.stack) rfl rfl D3 (by k_room) hh (by walk_at "units") ?_ ?_
  · intro h9 D9 tk9 hb9 F9 N9 l9
    simp only [AllLt] at l9
    dsimp only
    obtain ⟨rfl, hfin⟩ := steps_good hst3 hb9
    rw [List.append_nil] at hc3
    subst hc3
    k_steps
    dsimp only [WStepG]
    k_steps
    (with_reducible rename Fr h₀ L _ m => FE)
    (with_reducible rename News h₀ L _ _ => NE)
    refine hok _ _ _ D refs3 cD3 D9 b1 b2 b3 b4 b5 _ _ _ _ _ _ FE NE ?_ ?_ (hd3.mono ?_) hfin.symm (.tail _ (.head _)) (.head _)
    · exact fun p hp => .tail _ (.tail _ (.tail _ (.tail _ (.tail _ (.tail _ (hsub3 p hp))))))
    · exact .tail _ (.tail _ (.tail _ (.tail _ (.tail _ (.head _)))))
    · exact fun p hp => .tail _ (.tail _ (.tail _ (.tail _ (.tail _ (.tail _ hp)))))
  · intro k9 x9 g9 h9 e9 tt9 tk9 tk9' tx9 hb9 hk9 hx9 F9 R9 U9
    obtain ⟨todo', rfl, hst4⟩ := steps_bad hst3 (digits_ok _) hb9 hk9 hx9
    refine caught_SB (KF := hd.heap_39 w.params) R9 F9 B3 U9 XB TB D3 K3 (by k_is) (by boot_by_name) (by decide +kernel) PySem.F.isExc_ValueError PySem.F.notTuple_ValueError (by rw [isSubtype_type]; kernel_rfl) ?_
    intro h10 g10 newsA tkA K10 FA NA GA NB B10 X10 T10 D10
    obtain ⟨oe, ot, NM, GM⟩ := got_join NA GA NB
    clear NA NB GA
    have hofL := got_off NM GM (x := l) (.tail _ (.tail _ (.tail _ (.tail _ (.head _))))) rfl (by decide)
    have hofD := got_off NM GM (x := D) (.tail _ (.tail _ (.tail _ (.tail _ (.tail _ (.head _)))))) rfl (by decide)
    have hk9' : k9 = 0 ∨ k9 = 1 ∨ k9 = 2 ∨ k9 = 3 ∨ k9 = 4 := by omega
    have hltA := news_lt NM
    simp only [AllLt] at hltA
    clear F8 N8 F9 R9 U9 hD3 hok
    rcases hk9' with rfl | rfl | rfl | rfl | rfl
    · cases hx9
      k_steps
      (with_reducible rename Fr g10 _ _ _ => FE)
      (with_reducible rename News g10 _ _ _ => NE)
      rename (_ < _ ∧ _ < _ ∧ _ < _ ∧ _ < _ ∧ _ < _ ∧ _ < _ ∧ AllLt _ rest3) => l8
      refine nm1o NE ?_
      intro Tn on e1 e2
      subst e1
      rw [← e2] at NE
      obtain ⟨q1, q2, q3, q4, q5, q6, q7⟩ := l8
      dsimp only [WStepG]
      refine ⟨g10, _, _, _, (l, W.listOf #[.int (b1 - b1.fdiv 24 * 24) _, .int b2 _, .int b3 _, .int b4 _, .int b5 _] _) :: (D, W.listOf (refs3.push (.ref Tn)) (cD3 + 1)) :: (Tn, on) :: rest3, todo'.length, rfl, FE, news_sub NE (by walk_at "mem all"), ?_, K10, B10, X10, T10, D10, _, _, _, _, _, _, _, _, _, _, _, ds ++ [(0, b1)], todo', _, _, (Tn, on) :: rest3, rfl, ?_, ?_, dts_push (0, b1) hd3 (fun p hp => .tail _ hp) ?_, ?_, ?_, rfl, ?_⟩
      · rw [hn3]; exact Nat.lt_succ_self _
      · exact List.forall_mem_cons.mpr ⟨⟨by k_ne, by k_ne⟩, fun p hp => ⟨hD3b p hp, hD3a p hp⟩⟩
      · exact fun p hp => .tail _ (hsub3 p hp)
      · rw [e2]
        exact DatIn.tuple (n := 0) (.head _) (.cons (.int _ _) (.cons (.int _ _) .nil))
      · have e : b1.fdiv 24 = b1 / 24 := Int.fdiv_eq_ediv_of_nonneg _ (by decide)
        rw [e]
        exact hst4
      · rw [List.append_assoc]
        exact hc3
      · intro z hz
        simp only [List.mem_cons, List.not_mem_nil, or_false, not_or] at hz
        simp only [hz.1, hz.2.1, hz.2.2, if_false, List.mem_cons, List.not_mem_nil, or_false]
        try rfl
    · cases hx9
      k_steps
      (with_reducible rename Fr g10 _ _ _ => FE)
      (with_reducible rename News g10 _ _ _ => NE)
      rename (_ < _ ∧ _ < _ ∧ _ < _ ∧ _ < _ ∧ _ < _ ∧ _ < _ ∧ AllLt _ rest3) => l8
      refine nm1o NE ?_
      intro Tn on e1 e2
      subst e1
      rw [← e2] at NE
      obtain ⟨q1, q2, q3, q4, q5, q6, q7⟩ := l8
      dsimp only [WStepG]
      refine ⟨g10, _, _, _, (l, W.listOf #[.int (b1 + b2.fdiv 60) _, .int (b2 - b2.fdiv 60 * 60) _, .int b3 _, .int b4 _, .int b5 _] _) :: (D, W.listOf (refs3.push (.ref Tn)) (cD3 + 1)) :: (Tn, on) :: rest3, todo'.length, rfl, FE, news_sub NE (by walk_at "mem all"), ?_, K10, B10, X10, T10, D10, _, _, _, _, _, _, _, _, _, _, _, ds ++ [(1, b2)], todo', _, _, (Tn, on) :: rest3, rfl, ?_, ?_, dts_push (1, b2) hd3 (fun p hp => .tail _ hp) ?_, ?_, ?_, rfl, ?_⟩
      · rw [hn3]; exact Nat.lt_succ_self _
      · exact List.forall_mem_cons.mpr ⟨⟨by k_ne, by k_ne⟩, fun p hp => ⟨hD3b p hp, hD3a p hp⟩⟩
      · exact fun p hp => .tail _ (hsub3 p hp)
      · rw [e2]
        exact DatIn.tuple (n := 0) (.head _) (.cons (.int _ _) (.cons (.int _ _) .nil))
      · have e : b2.fdiv 60 = b2 / 60 := Int.fdiv_eq_ediv_of_nonneg _ (by decide)
        rw [e]
        exact hst4
      · rw [List.append_assoc]
        exact hc3
      · intro z hz
        simp only [List.mem_cons, List.not_mem_nil, or_false, not_or] at hz
        simp only [hz.1, hz.2.1, hz.2.2, if_false, List.mem_cons, List.not_mem_nil, or_false]
        try rfl
    · cases hx9
      k_steps
      (with_reducible rename Fr g10 _ _ _ => FE)
      (with_reducible rename News g10 _ _ _ => NE)
      rename (_ < _ ∧ _ < _ ∧ _ < _ ∧ _ < _ ∧ _ < _ ∧ _ < _ ∧ AllLt _ rest3) => l8
      refine nm1o NE ?_
      intro Tn on e1 e2
      subst e1
      rw [← e2] at NE
      obtain ⟨q1, q2, q3, q4, q5, q6, q7⟩ := l8
      dsimp only [WStepG]
      refine ⟨g10, _, _, _, (l, W.listOf #[.int b1 _, .int (b2 + b3.fdiv 60) _, .int (b3 - b3.fdiv 60 * 60) _, .int b4 _, .int b5 _] _) :: (D, W.listOf (refs3.push (.ref Tn)) (cD3 + 1)) :: (Tn, on) :: rest3, todo'.length, rfl, FE, news_sub NE (by walk_at "mem all"), ?_, K10, B10, X10, T10, D10, _, _, _, _, _, _, _, _, _, _, _, ds ++ [(2, b3)], todo', _, _, (Tn, on) :: rest3, rfl, ?_, ?_, dts_push (2, b3) hd3 (fun p hp => .tail _ hp) ?_, ?_, ?_, rfl, ?_⟩
      · rw [hn3]; exact Nat.lt_succ_self _
      · exact List.forall_mem_cons.mpr ⟨⟨by k_ne, by k_ne⟩, fun p hp => ⟨hD3b p hp, hD3a p hp⟩⟩
      · exact fun p hp => .tail _ (hsub3 p hp)
      · rw [e2]
        exact DatIn.tuple (n := 0) (.head _) (.cons (.int _ _) (.cons (.int _ _) .nil))
      · have e : b3.fdiv 60 = b3 / 60 := Int.fdiv_eq_ediv_of_nonneg _ (by decide)
        rw [e]
        exact hst4
      · rw [List.append_assoc]
        exact hc3
      · intro z hz
        simp only [List.mem_cons, List.not_mem_nil, or_false, not_or] at hz
        simp only [hz.1, hz.2.1, hz.2.2, if_false, List.mem_cons, List.not_mem_nil, or_false]
        try rfl
    · cases hx9
      k_steps
      (with_reducible rename Fr g10 _ _ _ => FE)
      (with_reducible rename News g10 _ _ _ => NE)
      rename (_ < _ ∧ _ < _ ∧ _ < _ ∧ _ < _ ∧ _ < _ ∧ _ < _ ∧ AllLt _ rest3) => l8
      refine nm1o NE ?_
      intro Tn on e1 e2
      subst e1
      rw [← e2] at NE
      obtain ⟨q1, q2, q3, q4, q5, q6, q7⟩ := l8
      dsimp only [WStepG]
      refine ⟨g10, _, _, _, (l, W.listOf #[.int b1 _, .int b2 _, .int (b3 + b4.fdiv 1000000) _, .int (b4 - b4.fdiv 1000000 * 1000000) _, .int b5 _] _) :: (D, W.listOf (refs3.push (.ref Tn)) (cD3 + 1)) :: (Tn, on) :: rest3, todo'.length, rfl, FE, news_sub NE (by walk_at "mem all"), ?_, K10, B10, X10, T10, D10, _, _, _, _, _, _, _, _, _, _, _, ds ++ [(3, b4)], todo', _, _, (Tn, on) :: rest3, rfl, ?_, ?_, dts_push (3, b4) hd3 (fun p hp => .tail _ hp) ?_, ?_, ?_, rfl, ?_⟩
      · rw [hn3]; exact Nat.lt_succ_self _
      · exact List.forall_mem_cons.mpr ⟨⟨by k_ne, by k_ne⟩, fun p hp => ⟨hD3b p hp, hD3a p hp⟩⟩
      · exact fun p hp => .tail _ (hsub3 p hp)
      · rw [e2]
        exact DatIn.tuple (n := 0) (.head _) (.cons (.int _ _) (.cons (.int _ _) .nil))
      · have e : b4.fdiv 1000000 = b4 / 1000000 := Int.fdiv_eq_ediv_of_nonneg _ (by decide)
        rw [e]
        exact hst4
      · rw [List.append_assoc]
        exact hc3
      · intro z hz
        simp only [List.mem_cons, List.not_mem_nil, or_false, not_or] at hz
        simp only [hz.1, hz.2.1, hz.2.2, if_false, List.mem_cons, List.not_mem_nil, or_false]
        try rfl
    · cases hx9
      k_steps
      (with_reducible rename Fr g10 _ _ _ => FE)
      (with_reducible rename News g10 _ _ _ => NE)
      rename (_ < _ ∧ _ < _ ∧ _ < _ ∧ _ < _ ∧ _ < _ ∧ _ < _ ∧ AllLt _ rest3) => l8
      refine nm1o NE ?_
      intro Tn on e1 e2
      subst e1
      rw [← e2] at NE
      obtain ⟨q1, q2, q3, q4, q5, q6, q7⟩ := l8
      dsimp only [WStepG]
      refine ⟨g10, _, _, _, (l, W.listOf #[.int b1 _, .int b2 _, .int b3 _, .int (b4 + b5.fdiv 2) _, .int (b5 - b5.fdiv 2 * 2) _] _) :: (D, W.listOf (refs3.push (.ref Tn)) (cD3 + 1)) :: (Tn, on) :: rest3, todo'.length, rfl, FE, news_sub NE (by walk_at "mem all"), ?_, K10, B10, X10, T10, D10, _, _, _, _, _, _, _, _, _, _, _, ds ++ [(4, b5)], todo', _, _, (Tn, on) :: rest3, rfl, ?_, ?_, dts_push (4, b5) hd3 (fun p hp => .tail _ hp) ?_, ?_, ?_, rfl, ?_⟩
      · rw [hn3]; exact Nat.lt_succ_self _
      · exact List.forall_mem_cons.mpr ⟨⟨by k_ne, by k_ne⟩, fun p hp => ⟨hD3b p hp, hD3a p hp⟩⟩
      · exact fun p hp => .tail _ (hsub3 p hp)
      · rw [e2]
        exact DatIn.tuple (n := 0) (.head _) (.cons (.int _ _) (.cons (.int _ _) .nil))
      · have e : b5.fdiv 2 = b5 / 2 := Int.fdiv_eq_ediv_of_nonneg _ (by decide)
        rw [e]
        exact hst4
      · rw [List.append_assoc]
        exact hc3
      · intro z hz
        simp only [List.mem_cons, List.not_mem_nil, or_false, not_or] at hz
        simp only [hz.1, hz.2.1, hz.2.2, if_false, List.mem_cons, List.not_mem_nil, or_false]
        try rfl
end
end Mine
end
section
open PySem PySem.W PyProof.Rows
set_option maxRecDepth 100000
set_option maxHeartbeats 8000000
set_option rowWalk.seconds 0
namespace Mine
local macro_rules | `(tactic| k_room) => `(tactic| ((try simp only [depth_under_make, depth_under_kw, depth_in1, depth_deeper, depth_caller]); first | decide | omega | (simp only [recursionLimit] at *; omega)))
local macro_rules | `(tactic| walk_at "my stop") => `(tactic| ((fail_if_success (with_reducible show wpAny _ _ (pyIter _) (fun it s₂ => LoopAtV _ _ _ _ _ _ _ _ _ it s₂) _ _)); (fail_if_success (with_reducible show wpAny _ _ (call (Value.type "enumerate") _) _ _ _)); (fail_if_success (with_reducible show wpAny _ _ (call (Value.ref _) _ _) _ _ _)); (fail_if_success (with_reducible show wpAny _ _ (eval (Expr.ListComp _ _ _ _) _) _ _ _)); skip))
local macro_rules | `(tactic| k_steps) => `(tactic| repeat' (first | (k_unfold; (try dsimp only)) | (k_end; wrow_close) | (walk_at "my stop"; walk1) | (walk_at "my stop"; dsimp only; walk1) | (leave1; walk_say "STEP leave1"; try dsimp only) | (exfalso; (rename (_ : Int) ≠ _ => hQq); exact absurd rfl hQq) | fail "no step"))
local macro_rules | `(tactic| walk_at "mem tail") => `(tactic| (intro p hp; repeat (first | exact hp | refine List.Mem.tail _ ?_)))
local macro_rules | `(tactic| walk_at "mem all") => `(tactic| repeat' (first | exact List.forall_mem_nil _ | (refine List.forall_mem_cons.mpr ⟨?_, ?_⟩) | k_mem | walk_at "mem tail"))
local macro_rules | `(tactic| walk_at "off all") => `(tactic| repeat' (first | exact List.forall_mem_nil _ | (refine List.forall_mem_cons.mpr ⟨?_, ?_⟩) | k_ne))
local macro_rules | `(tactic| k_all) => `(tactic| assumption)
local macro_rules | `(tactic| walk_at "binaryOp Mult int int") => `(tactic| ((with_reducible refine mul_int ?_ (by first | exact PySem.IntMulOk.of_right (PySem.intBits_le_64 (by omega) (by omega)) | exact PySem.IntMulOk.of_left (PySem.intBits_le_64 (by omega) (by omega)))); (try dsimp only)))
local macro_rules | `(tactic| walk_at "exec Try") => `(tactic| (refine wpAny_Try_except ?_))
local macro_rules | `(tactic| walk_at "call builtin:len") => `(tactic| (k_here; (rename Got _ _ _ _ _ => gX); (with_reducible show wpAny _ _ (call (Value.builtin "len") [Value.ref _]) _ _ _); (refine' len_got2 ?k1 ?k2 ?_; (case k1 => k_asm); (case k2 => got_up))))
local macro_rules | `(tactic| walk_at "call builtin:list.index") => `(tactic| (k_here; (first
  | (refine' index_list_strs 0 ?k1 ?k2 ?k3 ?k4 ?k5 ?_; (case k1 => is_list); (case k2 => exact .cons _ _ (.cons _ _ (.cons _ _ (.cons _ _ (.cons _ _ .nil))))); (case k3 => exact Nat.le_of_ble_eq_true rfl); (case k4 => exact rfl); (case k5 => exact rfl))
  | (refine' index_list_strs 1 ?k1 ?k2 ?k3 ?k4 ?k5 ?_; (case k1 => is_list); (case k2 => exact .cons _ _ (.cons _ _ (.cons _ _ (.cons _ _ (.cons _ _ .nil))))); (case k3 => exact Nat.le_of_ble_eq_true rfl); (case k4 => exact rfl); (case k5 => exact rfl))
  | (refine' index_list_strs 2 ?k1 ?k2 ?k3 ?k4 ?k5 ?_; (case k1 => is_list); (case k2 => exact .cons _ _ (.cons _ _ (.cons _ _ (.cons _ _ (.cons _ _ .nil))))); (case k3 => exact Nat.le_of_ble_eq_true rfl); (case k4 => exact rfl); (case k5 => exact rfl))
  | (refine' index_list_strs 3 ?k1 ?k2 ?k3 ?k4 ?k5 ?_; (case k1 => is_list); (case k2 => exact .cons _ _ (.cons _ _ (.cons _ _ (.cons _ _ (.cons _ _ .nil))))); (case k3 => exact Nat.le_of_ble_eq_true rfl); (case k4 => exact rfl); (case k5 => exact rfl))
  | (refine' index_list_strs 4 ?k1 ?k2 ?k3 ?k4 ?k5 ?_; (case k1 => is_list); (case k2 => exact .cons _ _ (.cons _ _ (.cons _ _ (.cons _ _ (.cons _ _ .nil))))); (case k3 => exact Nat.le_of_ble_eq_true rfl); (case k4 => exact rfl); (case k5 => exact rfl)))))
local macro_rules | `(tactic| walk_at "subscriptTail Attribute Name Constant ref int") => `(tactic| (k_here; (rename Got _ _ _ _ _ => gX); refine item_tupleT (Got.isTup (by assumption) (by got_up)) (by omega) (by omega) (by rfl) (by rfl) ?_))
local macro_rules | `(tactic| walk_at "units") => `(tactic| ((try simp only [units_deeper, units_in1, units_caller, cLine_is]); first | decide | (simp only [cLine_is] at *; omega)))
local macro_rules | `(tactic| walk_at "exec For Tuple Call cons nil") => `(tactic| (k_here; (rename Fr _ _ _ _ => lF'); (with_unfolding_all refine' For_turns lF' ?_)))
local macro_rules | `(tactic| walk_at "exec For Name Subscript cons nil") => `(tactic| (k_here; (rename Fr _ _ _ _ => lF'); (with_unfolding_all refine' For_turns lF' ?_)))
theorem ints_at {its : Array Value} {ns : List Int} (h : IntsAre its.toList ns) {i : Nat} {v : Value} (hv : its[i]? = some v) : ∃ z t, v = .int z t := by
  have hm : v ∈ its.toList := by
    have := List.mem_of_getElem? (show its.toList[i]? = some v by simpa using hv)
    exact this
  clear hv
  generalize its.toList = l at *
  induction h with
  | nil => cases hm
  | cons z t _ ih =>
    rcases List.mem_cons.mp hm with rfl | hm
    · exact ⟨_, _, rfl⟩
    · exact ih hm
theorem below_at {A : Around} {h₀ h : Heap} {L : Addr} {m : Str → Option Value} {o : List Env} (_ : Fr h₀ L h m) (B : Below A h₀ o h₀) : Below A h₀ o h₀ := B
theorem dig_fd (c : Int) : digitsOf c = [((((c.fdiv 2).fdiv 1000000).fdiv 60).fdiv 60).fmod 24, (((c.fdiv 2).fdiv 1000000).fdiv 60).fmod 60, ((c.fdiv 2).fdiv 1000000).fmod 60, (c.fdiv 2).fmod 1000000, c.fmod 2] := by
  simp only [Int.fdiv_eq_ediv_of_nonneg _ (show (0 : Int) ≤ 2 by decide), Int.fdiv_eq_ediv_of_nonneg _ (show (0 : Int) ≤ 1000000 by decide), Int.fdiv_eq_ediv_of_nonneg _ (show (0 : Int) ≤ 60 by decide), Int.fmod_eq_emod_of_nonneg _ (show (0 : Int) ≤ 24 by decide), Int.fmod_eq_emod_of_nonneg _ (show (0 : Int) ≤ 60 by decide), Int.fmod_eq_emod_of_nonneg _ (show (0 : Int) ≤ 1000000 by decide), Int.fmod_eq_emod_of_nonneg _ (show (0 : Int) ≤ 2 by decide)]
  rfl
theorem rng5 : ∀ n : Fin 64, Builtin.Range.small 0 ((n.val : Int) + 1) 5 = true := by decide +kernel
theorem nmI {vs : List Value} {ns : List Int} (_ : IntsAre vs ns) {P : Prop} (k : ∀ ns', ns' = ns → P) : P := k ns rfl
theorem nmV {vs : List Value} {ns : List Int} (_ : IntsAre vs ns) {P : Prop} (k : ∀ vs', vs' = vs → P) : P := k vs rfl
theorem law_holds : PySem.Challenge.rw_km0086_01.Holds := Mine.hd (by
  w_top off
  k_go0; (all_goals try k_fold); k_steps
  rename IsRange _ _ _ _ _ _ _ _ => R1
  rename News _ _ _ _ => N1
  rename Fr _ _ _ _ => F1
  rename IntsAre _ (List.take 120 _) => hH
  rename (_ < _ ∧ _ < _ ∧ _ < _) => l0
  refine nmI hH ?_
  intro held eh
  rw [← eh] at hH R1
  have hhl : held.length ≤ 63 := by
    rw [eh, List.length_take]
    omega
  clear eh
  refine nm3 N1 ?_
  intro lh lc0 lw e1 e2 e3
  subst e1 e2 e3
  refine nm4 N1 ?_
  intro lz e1
  subst e1
  refine nmF F1 ?_
  intro m₀ em
  have N2 := news_sub (nw' := [(lc0, _), (lh, _), (lw, _), (lz, _)]) N1 (by walk_at "mem all")
  refine nmT N2 ?_
  intro rest er
  refine j_range ((held.length + 5) / 5) (fun i m nw => ∃ (lc : Addr) (b1 b2 b3 b4 b5 : Int) (w1 w2 w3 w4 w5 : Tok) (c : Nat), nw = (lc, W.listOf #[.int b1 w1, .int b2 w2, .int b3 w3, .int b4 w4, .int b5 w5] c) :: rest ∧ (∀ p ∈ rest, p.1 ≠ lc) ∧
    (∀ z, z ∉ (["start", "k", "x", "due", "count", "digits", "size", "refused", "told", "clock"] : List Str) → m z = m₀ z) ∧ m ("clock" : Str) = some (.ref lc)) rfl R1 ?_ ?_ F1 N2 ?_ ?_ ?_
  · generalize held.length = n at hhl ⊢
    exact rng5 ⟨n, by omega⟩
  · generalize held.length = n at hhl ⊢
    simp only [Builtin.Range.rangeSize]
    omega
  · subst em er
    refine ⟨lc0, _, _, _, _, _, _, _, _, _, _, _, rfl, ?_, fun _ _ => rfl, rfl⟩
    walk_at "off all"
  · rintro i t m₁ nw h tk I oI hi ⟨lc, b1, b2, b3, b4, b5, w1, w2, w3, w4, w5, c, rfl, hD, hm1, hc1⟩ hoff F3 N3
    obtain ⟨zi, hzi⟩ : ∃ zi : Int, zi = 0 + (i : Int) * 5 := ⟨_, rfl⟩
    rw [← hzi] at F3
    have em₁ := map_but1 hc1 hm1
    rw [em₁] at F3
    clear em₁
    subst er em
    dsimp only [envOfC] at F3 N3
    have hcI : @Ne Nat lc I := hoff _ (.head _)
    have hlt' := news_lt N3
    simp only [AllLt] at hlt'
    have hz0 : 0 ≤ zi := by omega
    have hz5 : zi ≤ 70 := by omega
    have hoff2 := allNe_of fun p hp => hoff p (.tail _ hp)
    have hD2 := allNe_of hD
    simp only [AllNe] at hoff2 hD2
    clear N2 N1 F1 R1
    k_steps
    rename News _ _ _ _ => N4
    rename Fr _ _ _ _ => F4
    rename IntsAre _ (List.take _ (List.drop _ _)) => hS
    refine nm1 N4 ?_
    intro ls e1
    subst e1
    refine nmV hS ?_
    intro sv esv
    subst esv
    refine nmI hS ?_
    intro sl esl
    rw [← esl] at hS
    have hsl : sl.length ≤ 5 := by
      rw [esl, List.length_take]
      omega
    clear esl
    refine nmF F4 ?_
    intro m2 em2
    have N5 := news_sub (nw' := [(lc, _), (ls, _), (I, oI), (lh, _), (lw, _), (lz, _)]) N4 (by walk_at "mem all")
    refine nmT N5 ?_
    intro rest er
    have hrl : ∀ p ∈ rest, p.1 ≠ lc := by subst er; walk_at "off all"
    have hcl : m2 ("clock" : Str) = some (.ref lc) := by subst em2; rfl
    refine j_enum (l := ls) (c := 0) (items := sv.toArray) (fun i m nw => ∃ (b1 b2 b3 b4 b5 : Int) (w1 w2 w3 w4 w5 : Tok) (c : Nat), nw = (lc, W.listOf #[.int b1 w1, .int b2 w2, .int b3 w3, .int b4 w4, .int b5 w5] c) :: rest ∧
      (∀ z, z ∉ (["k", "x"] : List Str) → m z = m2 z)) rfl (fun i m nw q => ?_) (by rfl) (by rfl) (by rfl) F4 N5 ?_ ?_ ?_
    · obtain ⟨_, _, _, _, _, _, _, _, _, _, _, rfl, _⟩ := q
      rw [er]
      exact .tail _ (.head _)
    · subst em2 er
      exact ⟨_, _, _, _, _, _, _, _, _, _, _, rfl, fun _ _ => rfl⟩
    · rintro i2 v2 t2 m3 nw h3 tk3 I3 oe3 oi3 hv2 ⟨b1, b2, b3, b4, b5, w1, w2, w3, w4, w5, c, rfl, hm3⟩ hoff3 F6 N6
      obtain ⟨x2, tx2, rfl⟩ := ints_at (its := sv.toArray) (by simpa using hS) hv2
      have hi2 : i2 < 5 := by
        have q := (List.getElem?_eq_some_iff.mp (by simpa using hv2)).1
        have q2 := hS.length
        omega
      have em₁ := map_but1 (y := "clock") ((hm3 "clock" (by decide)).trans hcl) hm3
      rw [em₁] at F6
      clear em₁ em2
      have hoff4 : @Ne Nat lc (I3 + 1) ∧ @Ne Nat lc I3 := hoff3 _ (.head _)
      have hlt' := news_lt N6
      simp only [AllLt] at hlt'
      clear N4 N5 F4 hv2 er hoff hhl hH hS hoff2 hD2 hz0 hz5 hzi hm1 hD hm3 hsl
      have hi2' : i2 = 0 ∨ i2 = 1 ∨ i2 = 2 ∨ i2 = 3 ∨ i2 = 4 := by omega
      rcases hi2' with rfl | rfl | rfl | rfl | rfl
      all_goals (
        k_steps
        (with_reducible rename Fr _ _ _ _ => FE)
        (with_reducible rename News _ _ _ _ => NE)
        try dsimp only [UnrPostW]
        refine uEnd ((lc, W.listOf #[.int _ _, .int _ _, .int _ _, .int _ _, .int _ _] _) :: rest) FE NE (by walk_at "mem all") (by walk_at "mem all") ?_ ⟨_, _, _, _, _, _, _, _, _, _, _, rfl, ?_⟩
        · refine List.forall_mem_cons.mpr ⟨?_, fun p hp => ?_⟩
          · exact List.forall_mem_cons.mpr ⟨hoff4.1, List.forall_mem_cons.mpr ⟨hoff4.2, List.forall_mem_nil _⟩⟩
          · exact List.forall_mem_cons.mpr ⟨(hoff3 p (.tail _ hp)).1, List.forall_mem_cons.mpr ⟨(hoff3 p (.tail _ hp)).2, List.forall_mem_nil _⟩⟩
        · intro z hz
          simp only [List.mem_cons, List.not_mem_nil, or_false, not_or] at hz
          simp only [hz.1, hz.2, if_false, List.mem_cons, List.not_mem_nil, or_false]
          split
          · rename_i e
            rw [e]
            exact hcl.symm
          · rfl)
    · rintro m3 nw h3 tk3 ⟨b1, b2, b3, b4, b5, w1, w2, w3, w4, w5, c, rfl, hm3⟩ F6 N6
      have em₁ := map_but _ hm3
      rw [em₁] at F6
      clear em₁
      subst em2 er
      dsimp only [envOfC] at F6 N6
      have hlt' := news_lt N6
      simp only [AllLt] at hlt'
      clear N4 N5 F4
      (try dsimp only)
      k_steps
      rename Below _ _ _ _ => B7
      rename Frag.In _ _ => X7
      rename Top _ _ _ _ _ _ => T7
      (with_reducible rename Fr _ _ _ _ => F7)
      (with_reducible rename News _ _ _ _ => N7)
      replace B7 := below_at F7 B7
      refine refusals_call B7 F7 X7 N7 T7 rfl rfl rfl (by k_room) rfl (by walk_at "units") (by k_mem) (by k_mem) ?_
      intro h8 tk8 TT tc D refs cD nw8 F8 N8 hsub8 hDn8 hD8 hd8 hT8
      have hlc8 := hsub8 _ (show (lc, W.listOf #[.int b1 w1, .int b2 w2, .int b3 w3, .int b4 w4, .int b5 w5] c) ∈ _ by k_mem)
      obtain ⟨rest8, N9, hr1, hr2⟩ := led_split N8 hlc8
      have hlist : ∀ p ∈ nw8, p.2.cls = .type "tuple" → p ∈ rest8 := fun p hp hc => hr2 p hp fun e => by
        have e2 := news_uniq N8 (a := lc) (o := p.2) (o' := W.listOf #[.int b1 w1, .int b2 w2, .int b3 w3, .int b4 w4, .int b5 w5] c) (e ▸ hp) hlc8
        rw [e2] at hc
        exact absurd hc (by intro h; injection h with h; exact absurd h (by decide))
      have hd9 := dts_keep hlist hd8
      have hT9 := hlist _ hT8 rfl
      have hD9 := hr2 _ hD8 (fun e => hDn8 _ (by k_mem) e.symm)
      have hw9 := hr2 _ (hsub8 _ (show (lw, _) ∈ _ by k_mem)) (show lw ≠ lc by k_ne)
      have hz9 := hr2 _ (hsub8 _ (show (lz, _) ∈ _ by k_mem)) (show lz ≠ lc by k_ne)
      have hI9 := hr2 _ (hsub8 _ (show (I, oI) ∈ _ by k_mem)) (show I ≠ lc by k_ne)
      have hh9 := hr2 _ (hsub8 _ (show (lh, _) ∈ _ by k_mem)) (show lh ≠ lc by k_ne)
      have N10 := news_cons (news_cons (news_cons (news_cons N9 (.tail _ hT9)) (.tail _ (.tail _ hD9))) (.tail _ (.tail _ (.tail _ hz9)))) (.tail _ (.tail _ (.tail _ (.tail _ hw9))))
      have hlt' := news_lt N10
      simp only [AllLt] at hlt'
      clear N8 N9 hlist
      k_steps
      (with_reducible rename Fr _ _ _ _ => FQ)
      (with_reducible rename News _ _ _ _ => NQ)
      refine iter_listTurns (vs := [_, _, _, _, _]) rfl FQ NQ (.head _) rfl rfl (fun IQ hIQ => ?_)
      have hIQ8 : ∀ p ∈ rest8, p.1 ≠ IQ := fun p hp => Nat.ne_of_lt (hIQ p (.tail _ (.tail _ (.tail _ (.tail _ (.tail _ (.tail _ (.tail _ hp))))))))
      have hIQ' := allLt_of hIQ
      simp only [AllLt] at hIQ'
      clear hIQ
      refine ItemsRest.val (fun hQ tkQ FQ => ?_)
      refine AllObj.cons (fun oQ hcQ => AllObj.nil (fun NQ => ?_))
      simp only [List.cons_append, List.nil_append] at NQ
      dsimp only at hcQ
      k_steps
      (with_reducible rename Fr _ _ _ _ => FQ)
      (with_reducible rename News _ _ _ _ => NQ)
      try dsimp only [UnrPostW]
      refine nmT NQ ?_
      intro tl etl
      rw [← etl] at NQ
      refine uEnd tl FQ NQ (by walk_at "mem all") (fun p hp => .tail _ hp) (fun p hp q hq => by rw [List.mem_singleton.mp hq]; revert p hp; subst etl; walk_at "off all"; exact hIQ8) ⟨subL_of (by subst etl; walk_at "mem all"), ?_⟩
      subst etl
      refine ItemsRest.val (fun hQ tkQ FQ => ?_)
      refine AllObj.cons (fun oQ hcQ => AllObj.nil (fun NQ => ?_))
      simp only [List.cons_append, List.nil_append] at NQ
      dsimp only at hcQ
      k_steps
      (with_reducible rename Fr _ _ _ _ => FQ)
      (with_reducible rename News _ _ _ _ => NQ)
      try dsimp only [UnrPostW]
      refine nmT NQ ?_
      intro tl etl
      rw [← etl] at NQ
      refine uEnd tl FQ NQ (by walk_at "mem all") (fun p hp => .tail _ hp) (fun p hp q hq => by rw [List.mem_singleton.mp hq]; revert p hp; subst etl; walk_at "off all"; exact hIQ8) ⟨subL_of (by subst etl; walk_at "mem all"), ?_⟩
      subst etl
      refine ItemsRest.val (fun hQ tkQ FQ => ?_)
      refine AllObj.cons (fun oQ hcQ => AllObj.nil (fun NQ => ?_))
      simp only [List.cons_append, List.nil_append] at NQ
      dsimp only at hcQ
      k_steps
      (with_reducible rename Fr _ _ _ _ => FQ)
      (with_reducible rename News _ _ _ _ => NQ)
      try dsimp only [UnrPostW]
      refine nmT NQ ?_
      intro tl etl
      rw [← etl] at NQ
      refine uEnd tl FQ NQ (by walk_at "mem all") (fun p hp => .tail _ hp) (fun p hp q hq => by rw [List.mem_singleton.mp hq]; revert p hp; subst etl; walk_at "off all"; exact hIQ8) ⟨subL_of (by subst etl; walk_at "mem all"), ?_⟩
      subst etl
      refine ItemsRest.val (fun hQ tkQ FQ => ?_)
      refine AllObj.cons (fun oQ hcQ => AllObj.nil (fun NQ => ?_))
      simp only [List.cons_append, List.nil_append] at NQ
      dsimp only at hcQ
      k_steps
      (with_reducible rename Fr _ _ _ _ => FQ)
      (with_reducible rename News _ _ _ _ => NQ)
      try dsimp only [UnrPostW]
      refine nmT NQ ?_
      intro tl etl
      rw [← etl] at NQ
      refine uEnd tl FQ NQ (by walk_at "mem all") (fun p hp => .tail _ hp) (fun p hp q hq => by rw [List.mem_singleton.mp hq]; revert p hp; subst etl; walk_at "off all"; exact hIQ8) ⟨subL_of (by subst etl; walk_at "mem all"), ?_⟩
      subst etl
      refine ItemsRest.val (fun hQ tkQ FQ => ?_)
      refine AllObj.cons (fun oQ hcQ => AllObj.nil (fun NQ => ?_))
      simp only [List.cons_append, List.nil_append] at NQ
      dsimp only at hcQ
      k_steps
      (with_reducible rename Fr _ _ _ _ => FQ)
      (with_reducible rename News _ _ _ _ => NQ)
      try dsimp only [UnrPostW]
      refine nmT NQ ?_
      intro tl etl
      rw [← etl] at NQ
      refine uEnd tl FQ NQ (by walk_at "mem all") (fun p hp => .tail _ hp) (fun p hp q hq => by rw [List.mem_singleton.mp hq]; revert p hp; subst etl; walk_at "off all"; exact hIQ8) ⟨subL_of (by subst etl; walk_at "mem all"), ?_⟩
      subst etl
      refine ItemsRest.zero (fun hQ tkQ FQ NQ => ?_)
      dsimp only
      clear hIQ' hIQ8
      k_steps
      (with_reducible rename Fr _ _ _ _ => FR)
      (with_reducible rename News _ _ _ _ => NR)
      refine nm2 NR ?_
      intro lrev ldig e1 e2
      subst e1 e2
      have hdlc : @Ne Nat ldig lc := by omega
      rename (_ < ldig ∧ _ < _ ∧ _ < _ ∧ _ < _ ∧ _ < _ ∧ AllLt _ rest8) => l9
      have hgh : @Ne Nat lh ldig := Nat.ne_of_lt (allLt_mem l9.2.2.2.2.2 _ hh9)
      have hgI : @Ne Nat I ldig := Nat.ne_of_lt (allLt_mem l9.2.2.2.2.2 _ hI9)
      have hgw : @Ne Nat lw ldig := Nat.ne_of_lt l9.1
      have hgz : @Ne Nat lz ldig := Nat.ne_of_lt l9.2.1
      have NR' := news_sub (nw' := (lc, _) :: (ldig, _) :: rest8) NR (by walk_at "mem all")
      refine run_call B7 FR X7 X7 T7 NR' (List.forall_mem_cons.mpr ⟨hdlc, hr1⟩) T7 rfl rfl (by k_room) rfl (by walk_at "units") (.tail _ hz9) (.tail _ hw9) ?_
      intro h11 tk11 T2 D2 refs2 cD2 R2 d1 d2 d3 d4 d5 y1 y2 y3 y4 y5 nw11 F11 N11 hsub11 hD11 hdd11 hdig hR11 hT11
      have hdig' := (dig_fd _).symm.trans hdig
      simp only [List.cons.injEq, and_true] at hdig'
      obtain ⟨rfl, rfl, rfl, rfl, rfl⟩ := hdig'
      have hd11 := hd9.mono (fun p hp => hsub11 p (.tail _ hp))
      have N12 := news_cons (news_cons (news_cons (news_cons (news_cons N11 hT11) (.tail _ hR11)) (.tail _ (.tail _ hD11))) (.tail _ (.tail _ (.tail _ (hsub11 _ (.tail _ hD9)))))) (.tail _ (.tail _ (.tail _ (.tail _ (hsub11 _ (.head _))))))
      have hlt' := news_lt N12
      simp only [AllLt] at hlt'
      have hh11 := hsub11 _ (.tail _ hh9)
      have hw11 := hsub11 _ (.tail _ hw9)
      have hz11 := hsub11 _ (.tail _ hz9)
      have hI11 := hsub11 _ (.tail _ hI9)
      clear NR NR' FR N11 hdig
      k_steps
      (with_reducible rename Fr _ _ _ _ => FL)
      (with_reducible rename News _ _ _ _ => NL)
      refine ListComp_none (ax := R2) FL NL rfl ?_ (.inl (by k_mem)) (Nat.le_of_ble_eq_true rfl) (by with_unfolding_all rfl) (by decide) (by with_unfolding_all rfl) (by decide) (by with_unfolding_all rfl) (by intro _; with_unfolding_all rfl) ?_ ?_
      · intro Q' hQ'
        k_steps
        exact hQ'
      · intro i5 v5 I5 oI5 C5 oC5 D5 m5 h5 tk5 E5 hv5 hC5 hm5 FC NC
        obtain ⟨z5, t5', rfl⟩ := ints_at (.cons _ _ (.cons _ _ (.cons _ _ (.cons _ _ (.cons _ _ .nil))))) hv5
        k_steps
        all_goals (
          (with_reducible rename Fr _ _ _ _ => FT)
          (with_reducible rename News _ _ _ _ => NT)
          refine TestOff.intro FT NT (by walk_at "mem all"))
      · intro D6 h6 tk6 F10 N10 o10
        simp only [LCg.Off1] at o10
        dsimp only
        k_steps
        (with_reducible rename Fr _ _ _ _ => FB)
        (with_reducible rename News _ _ _ _ => NB)
        dsimp only [JPost]
        refine' JEnd.intro _ FB NB ?hI ?hn ?ho ⟨ldig, _, _, _, _, _, _, _, _, _, _, _, rfl, ?h1, ?h2, ?h3⟩
        case hn =>
          refine List.forall_mem_cons.mpr ⟨by k_mem, List.forall_mem_cons.mpr ⟨?_, List.forall_mem_cons.mpr ⟨?_, List.forall_mem_cons.mpr ⟨?_, List.forall_mem_nil _⟩⟩⟩⟩
          · repeat (first | exact hh11 | refine List.Mem.tail _ ?_)
          · repeat (first | exact hw11 | refine List.Mem.tail _ ?_)
          · repeat (first | exact hz11 | refine List.Mem.tail _ ?_)
        case hI => repeat (first | exact hI11 | refine List.Mem.tail _ ?_)
        case ho => exact List.forall_mem_cons.mpr ⟨fun e => hgI e.symm, List.forall_mem_cons.mpr ⟨hoff2.1, List.forall_mem_cons.mpr ⟨hoff2.2.1, List.forall_mem_cons.mpr ⟨hoff2.2.2.1, List.forall_mem_nil _⟩⟩⟩⟩
        case h1 => exact List.forall_mem_cons.mpr ⟨hgh, List.forall_mem_cons.mpr ⟨hgw, List.forall_mem_cons.mpr ⟨hgz, List.forall_mem_nil _⟩⟩⟩
        case h3 => rfl
        case h2 =>
          intro z hz
          simp only [List.mem_cons, List.not_mem_nil, or_false, not_or] at hz
          simp only [hz.1, hz.2.1, hz.2.2.1, hz.2.2.2.1, hz.2.2.2.2.1, hz.2.2.2.2.2.1, hz.2.2.2.2.2.2.1, hz.2.2.2.2.2.2.2.1, hz.2.2.2.2.2.2.2.2.1, hz.2.2.2.2.2.2.2.2.2, if_false, List.mem_cons, List.not_mem_nil, or_false]
          try rfl
  · rintro m' nw h tk ⟨lc, b1, b2, b3, b4, b5, w1, w2, w3, w4, w5, c, rfl, hD, hm1, hc1⟩ F3 N3
    have em₁ := map_but1 hc1 hm1
    rw [em₁] at F3
    clear em₁
    subst er em
    dsimp only [envOfC] at F3 N3
    (try dsimp only)
    k_steps)
end Mine
end
theorem PySem.Challenge.cw_km0086_01_holds : PySem.Challenge.rw_km0086_01.Holds := by
  exact Mine.law_holds
