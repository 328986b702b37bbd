import PyProof.Rows.All
import Wide.All
import OpenK.AllK
import Wide.FinOn
import PySem.Challenge.RW_dm0103_11
open PySem PySem.W PyProof.Rows
set_option Elab.async false
namespace Mine
section
variable {prog : Program} {w : World} {A : Around} {E : Value → Shared → Prop} {s : Shared} {env : Env} {h₀ : Heap} {x : Str} {body : List Stmt} {Q : Flow → Shared → Prop}
/-- a turn's end: the ledger nx (it may have grown), the list that is walked in it, the iterator (I, oI) beside it -/
def GrowEnd (h₀ : Heap) (L : Addr) (l : Addr) (o : Obj) (I : Addr) (oI : Obj) (J : (Str → Option Value) → List (Addr × Obj) → Prop) (s₁ s₂ : Shared) : Prop :=
  ∃ h' tk m' nx, s₂ = { s₁ with heap := h', toks := tk } ∧ Fr h₀ L h' m' ∧ News h₀ L h' ((I, oI) :: nx) ∧ (l, o) ∈ nx ∧ (∀ p ∈ nx, p.1 ≠ I) ∧ J m' nx
def GrowPost (h₀ : Heap) (L : Addr) (l : Addr) (o : Obj) (I : Addr) (oI : Obj) (J : (Str → Option Value) → List (Addr × Obj) → Prop) (s₁ : Shared) (Q : Flow → Shared → Prop) (f : Flow) (s₂ : Shared) : Prop :=
  match f with
  | .ret v => Q (.ret v) s₂
  | .brk => Q .next s₂
  | _ => GrowEnd h₀ L l o I oI J s₁ s₂
/-- a loop over a list of the ledger's, its invariant over a ledger that may grow -/
theorem loop_grow {l : Addr} {vs : List Value} {nn : Nat} {m₀ : Str → Option Value} {news : List (Addr × Obj)} (J : Nat → (Str → Option Value) → List (Addr × Obj) → Prop)
    (hh : A.handled = none) (hl : (l, W.listOf vs.toArray nn) ∈ news) (F : Fr h₀ env.locals s.heap m₀) (N : News h₀ env.locals s.heap news) (hj : J 0 m₀ news)
    (turn : ∀ (i : Nat) v m₁ nx h tk oI, vs[i]? = some v → J i m₁ nx → (l, W.listOf vs.toArray nn) ∈ nx → (∀ p ∈ nx, p.1 ≠ s.heap.objs.size) → Fr h₀ env.locals h (fun y => if y = x then some v else m₁ y) → News h₀ env.locals h (nx ++ [(s.heap.objs.size, oI)]) →
      wpAny (model prog w) A (execs body env) (GrowPost h₀ env.locals l (W.listOf vs.toArray nn) s.heap.objs.size oI (J (i + 1)) { s with heap := h, toks := tk } Q) E { s with heap := h, toks := tk })
    (done : ∀ m₁ nx h tk, J vs.length m₁ nx → (l, W.listOf vs.toArray nn) ∈ nx → Fr h₀ env.locals h m₁ → News h₀ env.locals h nx → Q .next { s with heap := h, toks := tk }) :
    wpAny (model prog w) A (pyIter (.ref l)) (fun it s₂ => LoopAtV prog w A h₀ env x body Q E it s₂) E s := by
  have hol := (N _ hl).1
  have hls : s.heap.IsList l vs.toArray := ⟨_, hol, rfl, nn, rfl⟩
  have hne : l ≠ s.heap.objs.size := Nat.ne_of_lt (Heap.lt_size hol)
  have hlt : ∀ p ∈ news, p.1 ≠ s.heap.objs.size := fun p hp => Nat.ne_of_lt (Heap.lt_size (N p hp).1)
  refine wpAny_pyIter_list hls ?_
  have WK := Walks.list (prog := prog) (w := w) hh s.heap.objs.size l hne vs.toArray
  refine ⟨_, _, _, vs.toArray.size, _, _, m₀, news, (fun i m nx => (l, W.listOf vs.toArray nn) ∈ nx ∧ J i m nx), rfl, WK, ?_, ?_, ?_, ⟨⟨_, Heap.get?_push_size _ rfl, rfl, rfl⟩, hls.at fun o e => Heap.get?_push_of_some _ e⟩, F.push _, (fun p hp => ⟨Heap.get?_push_of_some _ (N p hp).1, (N p hp).2⟩), ⟨hl, hj⟩, ?_, ?_⟩
  · intro hm
    rcases List.mem_cons.mp hm with e | hm
    · exact absurd F.ns.lt (e ▸ Nat.lt_irrefl _)
    · exact (N _ hl).2.1 ((List.mem_singleton.mp hm).symm)
  · intro b hb
    rw [List.mem_singleton.mp hb]
    exact next_is_new F
  · intro p hp hI
    exact hlt p hp (List.mem_singleton.mp hI)
  · rintro i v m₁ nx s₁ own ⟨h, tk, rfl⟩ hin hP ⟨hl₁, hJ⟩ hoff hown hget hfp hst F₁ N₁
    obtain ⟨oI, hoI, _⟩ := hst.1
    have hI : (s.heap.objs.size, oI) ∈ own := hfp _ (List.mem_cons_self) (next_is_new F) oI hoI
    have hoff' : ∀ p ∈ nx, p.1 ≠ s.heap.objs.size := fun p hp e => hoff p hp (by rw [e]; exact List.mem_cons_self)
    have N₂ : News h₀ env.locals h (nx ++ [(s.heap.objs.size, oI)]) := fun p hp => N₁ p (by
      rcases List.mem_append.mp hp with hp | hp
      · exact List.mem_append.mpr (.inr hp)
      · rw [List.mem_singleton.mp hp]; exact List.mem_append.mpr (.inl hI))
    have hlo : h.get? l = some (W.listOf vs.toArray nn) := (N₁ _ (List.mem_append.mpr (.inr hl₁))).1
    have hP' : vs[i]? = some v := by simpa using hP
    refine wpAny_mono (turn i v m₁ nx h tk oI hP' hJ hl₁ hoff' F₁ N₂) (fun f s₂ p => ?_) fun _ _ e => e
    have fin : GrowEnd h₀ env.locals l (W.listOf vs.toArray nn) s.heap.objs.size oI (J (i + 1)) { s with heap := h, toks := tk } s₂ →
        LoopStepU h₀ env.locals [s.heap.objs.size] own (fun m nx => (l, W.listOf vs.toArray nn) ∈ nx ∧ J (i + 1) m nx) { s with heap := h, toks := tk } .next s₂ := by
      rintro ⟨h', tk', m', nx', e, F', N', hl', ho', hJ'⟩
      refine ⟨rfl, h', tk', m', nx', e, F', fun p hp => ?_, fun p hp hq => ho' p hp (List.mem_singleton.mp hq), hl', hJ'⟩
      rcases List.mem_append.mp hp with hp | hp
      · have hg : h.get? p.1 = some p.2 := hget p hp
        rcases List.mem_cons.mp (hown p hp) with e1 | e1
        · have : p = (s.heap.objs.size, oI) := Prod.ext e1 (by rw [e1] at hg; exact Option.some.inj (hg.symm.trans hoI))
          rw [this]
          exact N' _ List.mem_cons_self
        · have e2 := List.mem_singleton.mp e1
          have : p = (l, W.listOf vs.toArray nn) := Prod.ext e2 (by rw [e2] at hg; exact Option.some.inj (hg.symm.trans hlo))
          rw [this]
          exact N' _ (List.mem_cons_of_mem _ hl')
      · exact N' p (List.mem_cons_of_mem _ hp)
    cases f with
    | ret v => exact .ret p
    | brk => exact .brk p
    | next => exact .next (fin p)
    | cont => exact .cont (fin p)
  · rintro h' tk m' nx F' N' _ ⟨hl', hJ⟩
    exact done m' nx h' tk (by simpa using hJ) hl' F' N'
end
end Mine
namespace Mine
section
variable {prog : Program} {w : World} {A : Around} {E : Value → Shared → Prop} {s : Shared} {env : Env} {h₀ : Heap} {x : Str} {body : List Stmt} {Q : Flow → Shared → Prop}
abbrev CellLed (p₁ p₂ p₃ p₄ : Addr × Obj) (a b d : Addr) : Obj × Obj × Obj → List (Addr × Obj) := fun c => [p₁, p₂, p₃, p₄, (a, c.1), (b, c.2.1), (d, c.2.2)]
def CellFacts : Obj × Obj × Obj → Prop := fun c => (∃ v, c.1.data = .cell v) ∧ (∃ v, c.2.1.data = .cell v) ∧ ∃ v, c.2.2.data = .cell v
/-- a search over a list of ints of the ledger's, three cells of the frame's turned -/
theorem search_cells {l : Addr} {vs : List Value} {ns : List Int} {nn : Nat} {m₀ : Str → Option Value} {p₂ p₃ p₄ : Addr × Obj} {a b d : Addr} {o₁ o₂ o₃ : Obj} {v₁ v₂ v₃ : Option Value} (stored : List Str)
    (hh : A.handled = none) (hi : IntsAre vs ns) (F : Fr h₀ env.locals s.heap m₀) (N : News h₀ env.locals s.heap [(l, W.listOf vs.toArray nn), p₂, p₃, p₄, (a, o₁), (b, o₂), (d, o₃)])
    (d₁ : o₁.data = .cell v₁) (d₂ : o₂.data = .cell v₂) (d₃ : o₃.data = .cell v₃)
    (turn : ∀ n t (u : Str → Option Value) h tk (I : Addr) oI (o₁ o₂ o₃ : Obj) (v₁ v₂ v₃ : Option Value), n ∈ ns → (∀ p ∈ [(l, W.listOf vs.toArray nn), p₂, p₃, p₄, (a, o₁), (b, o₂), (d, o₃)], p.1 < I) → o₁.data = .cell v₁ → o₂.data = .cell v₂ → o₃.data = .cell v₃ →
      Fr h₀ env.locals h (fun y => if y = x then some (.int n t) else if stored.contains y then u y else m₀ y) → News h₀ env.locals h [(l, W.listOf vs.toArray nn), p₂, p₃, p₄, (a, o₁), (b, o₂), (d, o₃), (I, oI)] →
      wpAny (model prog w) A (execs body env) (InvPostN h₀ env.locals (KstS (CellLed (l, W.listOf vs.toArray nn) p₂ p₃ p₄ a b d) (fun _ => []) CellFacts x stored m₀ (fun _ _ => True) []) [(I, oI)] [l, p₂.1, p₃.1, p₄.1, a, b, d] { s with heap := h, toks := tk } Q) E { s with heap := h, toks := tk })
    (done : ∀ (u : Str → Option Value) h tk (o₁ o₂ o₃ : Obj), Fr h₀ env.locals h (fun y => if y = x then u y else if stored.contains y then u y else m₀ y) → News h₀ env.locals h [(l, W.listOf vs.toArray nn), p₂, p₃, p₄, (a, o₁), (b, o₂), (d, o₃)] → Q .next { s with heap := h, toks := tk }) :
    wpAny (model prog w) A (pyIter (.ref l)) (fun it s₂ => LoopAtV prog w A h₀ env x body Q E it s₂) E s := by
  have same : ∀ {m₁ : Str → Option Value}, (∀ z, z ≠ x → stored.contains z = false → m₁ z = m₀ z) → ∀ y, y ≠ x → (if stored.contains y then m₁ y else m₀ y) = m₁ y := by
    intro m₁ hm y hy
    cases h3 : stored.contains y with
    | true => simp
    | false => simp only [Bool.false_eq_true, if_false]; exact (hm y hy h3).symm
  refine loop_grow (vs := vs) (nn := nn) (fun _ m nx => (∃ c, CellFacts c ∧ nx = CellLed (l, W.listOf vs.toArray nn) p₂ p₃ p₄ a b d c) ∧ (∀ p ∈ nx, p.1 < s.heap.objs.size) ∧ ∀ z, z ≠ x → stored.contains z = false → m z = m₀ z) hh List.mem_cons_self F N ⟨⟨(o₁, o₂, o₃), ⟨⟨_, d₁⟩, ⟨_, d₂⟩, _, d₃⟩, rfl⟩, fun p hp => Heap.lt_size (N p hp).1, fun _ _ _ => rfl⟩ ?_ ?_
  · rintro i v m₁ nx h tk oI hv ⟨⟨⟨c₁, c₂, c₃⟩, ⟨⟨w₁, e₁⟩, ⟨w₂, e₂⟩, w₃, e₃⟩, rfl⟩, hlt, hm⟩ hl₁ hoff F₁ N₁
    obtain ⟨n, t, rfl, hn⟩ := IntsAre.at hi i v hv
    have F₂ : Fr h₀ env.locals h (fun y => if y = x then some (.int n t) else if stored.contains y then m₁ y else m₀ y) := by
      have e : (fun y => if y = x then some (Value.int n t) else if stored.contains y then m₁ y else m₀ y) = fun y => if y = x then some (.int n t) else m₁ y := by
        funext y
        by_cases hy : y = x
        · rw [if_pos hy, if_pos hy]
        · rw [if_neg hy, if_neg hy]; exact same hm y hy
      rw [e]; exact F₁
    refine wpAny_mono (turn n t m₁ h tk s.heap.objs.size oI c₁ c₂ c₃ w₁ w₂ w₃ (List.mem_of_getElem? hn) hlt e₁ e₂ e₃ F₂ N₁) (fun f s₂ p => ?_) fun _ _ e => e
    have fin : InvEndN h₀ env.locals (KstS (CellLed (l, W.listOf vs.toArray nn) p₂ p₃ p₄ a b d) (fun _ => []) CellFacts x stored m₀ (fun _ _ => True) []) [(s.heap.objs.size, oI)] [l, p₂.1, p₃.1, p₄.1, a, b, d] { s with heap := h, toks := tk } s₂ →
        GrowEnd h₀ env.locals l (W.listOf vs.toArray nn) s.heap.objs.size oI (fun m nx => (∃ c, CellFacts c ∧ nx = CellLed (l, W.listOf vs.toArray nn) p₂ p₃ p₄ a b d c) ∧ (∀ p ∈ nx, p.1 < s.heap.objs.size) ∧ ∀ z, z ≠ x → stored.contains z = false → m z = m₀ z) { s with heap := h, toks := tk } s₂ := by
      rintro ⟨h', tk', m', news', nx', e, F', N', hn', ho', ha, c, hx', hf, _, hz, _⟩
      subst hx'
      have adr : ∀ p ∈ CellLed (l, W.listOf vs.toArray nn) p₂ p₃ p₄ a b d c, p.1 < s.heap.objs.size := by
        intro p hp
        have hp1 : p.1 ∈ (CellLed (l, W.listOf vs.toArray nn) p₂ p₃ p₄ a b d c).map (·.1) := List.mem_map_of_mem hp
        have hp2 : p.1 ∈ (CellLed (l, W.listOf vs.toArray nn) p₂ p₃ p₄ a b d (c₁, c₂, c₃)).map (·.1) := hp1
        obtain ⟨q, hq, e⟩ := List.mem_map.mp hp2
        rw [← e]; exact hlt q hq
      refine ⟨h', tk', m', _, e, F', fun q hq => ?_, List.mem_cons_self, fun p hp => Nat.ne_of_lt (adr p hp), ⟨c, hf, rfl⟩, adr, fun z hz1 hz2 => hz z hz1 (fun q hq => nomatch hq) hz2⟩
      rcases List.mem_cons.mp hq with rfl | hq
      · exact N' _ (ho' _ List.mem_cons_self)
      · exact N' q (hn' q hq)
    cases f with
    | ret v => exact p
    | brk => exact p
    | next => exact fin p
    | cont => exact fin p
  · rintro m₁ nx h tk ⟨⟨⟨c₁, c₂, c₃⟩, _, rfl⟩, _, hm⟩ hl' F₁ N₁
    refine done m₁ h tk c₁ c₂ c₃ ?_ N₁
    have e : (fun y => if y = x then m₁ y else if stored.contains y then m₁ y else m₀ y) = m₁ := by
      funext y
      by_cases hy : y = x
      · rw [if_pos hy]
      · rw [if_neg hy]; exact same hm y hy
    rw [e]; exact F₁
theorem cells_end {p₁ p₂ p₃ p₄ : Addr × Obj} {a b d I : Addr} {o₁ o₂ o₃ oI : Obj} {v₁ v₂ v₃ : Option Value} {stored : List Str} {m₀ m' : Str → Option Value} {L : Addr} {news' : List (Addr × Obj)} {s₁ : Shared} {h' : Heap} {tk : Nat}
    (F : Fr h₀ L h' m') (N : News h₀ L h' news') (e₁ : p₁ ∈ news') (e₂ : p₂ ∈ news') (e₃ : p₃ ∈ news') (e₄ : p₄ ∈ news') (e₅ : (a, o₁) ∈ news') (e₆ : (b, o₂) ∈ news') (e₇ : (d, o₃) ∈ news') (e₈ : (I, oI) ∈ news')
    (d₁ : o₁.data = .cell v₁) (d₂ : o₂.data = .cell v₂) (d₃ : o₃.data = .cell v₃) (hr : ∀ z, z ≠ x → (∀ p ∈ ([] : List (Str × Value)), z ≠ p.1) → stored.contains z = false → m' z = m₀ z) :
    InvEndN h₀ L (KstS (CellLed p₁ p₂ p₃ p₄ a b d) (fun _ => []) CellFacts x stored m₀ (fun _ _ => True) []) [(I, oI)] [p₁.1, p₂.1, p₃.1, p₄.1, a, b, d] s₁ { s₁ with heap := h', toks := tk } := by
  refine kst_end (o₁, o₂, o₃) F N ?_ ?_ rfl ⟨⟨_, d₁⟩, ⟨_, d₂⟩, _, d₃⟩ (List.forall_mem_nil _) hr True.intro
  · intro p hp
    simp only [CellLed, List.mem_cons, List.not_mem_nil, or_false] at hp
    rcases hp with rfl | rfl | rfl | rfl | rfl | rfl | rfl <;> assumption
  · intro p hp
    rw [List.mem_singleton.mp hp]; exact e₈
end
end Mine
namespace Mine
section
variable {M : Model} {A : Around} {E : Value → Shared → Prop} {s : Shared} {env : Env}
/-- an expression that gives a truth value and changes nothing but the count of the texts' marks -/
abbrev PureB (M : Model) (A : Around) (E : Value → Shared → Prop) (env : Env) (s : Shared) (e : Expr) (b : Bool) : Prop :=
  ∀ tk (Q : Value → Shared → Prop), (∀ tk', Q (.bool b) { s with toks := tk' }) → wpAny M A (eval e env) Q E { s with toks := tk }
theorem and_one {e pos b} (h : PureB M A E env s e b) : PureB M A E env s (.BoolOp .And [e] pos) b := fun tk Q hQ => BoolOp_one (h tk Q hQ)
theorem and_more {e₁ e₂ rest pos b₁ b₂} (h₁ : PureB M A E env s e₁ b₁) (h₂ : PureB M A E env s (.BoolOp .And (e₂ :: rest) pos) b₂) : PureB M A E env s (.BoolOp .And (e₁ :: e₂ :: rest) pos) (b₁ && b₂) := by
  intro tk Q hQ
  refine BoolOp_and (h₁ tk _ fun tk' => ?_)
  show wpAny M A (pure b₁) _ E _
  refine wpAny_pure ?_
  cases b₁ with
  | false => exact hQ tk'
  | true => exact h₂ tk' Q hQ
theorem pure_use {e : Expr} {b : Bool} {Q : Value → Shared → Prop} (h : PureB M A E env s e b) (hQ : ∀ tk, Q (.bool b) { s with toks := tk }) : wpAny M A (eval e env) Q E s := h s.toks Q hQ
end
section
open LCg LCt
variable {prog : Program} {w : World} {A : Around} {E : Value → Shared → Prop} {s : Shared} {h₀ : Heap} {L : Addr} {m : Str → Option Value} {env : Env}
def FiltEnd (h₀ : Heap) (L : Addr) (m : Str → Option Value) (news : List (Addr × Obj)) (s₁ : Shared) (ok : Bool) (s₂ : Shared) : Prop :=
  ok = false ∧ ∃ h' tk, s₂ = { s₁ with heap := h', toks := tk } ∧ Fr h₀ L h' m ∧ News h₀ L h' news
theorem FiltEnd.intro {news : List (Addr × Obj)} {h' : Heap} {tk : Nat} (F : Fr h₀ L h' m) (N : News h₀ L h' news) : FiltEnd h₀ L m news s false { s with heap := h', toks := tk } := ⟨rfl, h', tk, rfl, F, N⟩
def boolsOnly : List Value → Bool
  | [] => true
  | .bool _ :: r => boolsOnly r
  | _ :: _ => false
theorem boolsOnly_mem : ∀ {l : List Value}, boolsOnly l = true → ∀ v ∈ l, ∃ b, v = .bool b
  | [], _, _, h => nomatch h
  | .bool b :: r, h, v, hv => by
    rcases List.mem_cons.mp hv with rfl | hv
    · exact ⟨b, rfl⟩
    · exact boolsOnly_mem (l := r) h v hv
  | .int _ _ :: _, h, _, _ => nomatch h
  | .str _ _ :: _, h, _, _ => nomatch h
  | .ref _ :: _, h, _, _ => nomatch h
  | .none :: _, h, _, _ => nomatch h
/-- a filter that keeps nothing of a list of truth values -/
theorem rest_none {ct elt : Expr} {x : Str} {scope : Scope} {cl : List (Str × Addr)} {S : List (Addr × Obj) → Prop} {P : Nat → Value → Prop} {Fin : List Value → List (Addr × Obj) → Prop} {news : List (Addr × Obj)}
    (hP : ∀ i v, P i v → ∃ b, v = .bool b) (hS : S news)
    (turn : ∀ b I oI C oC D m₂ h tk (E' : Value → Shared → Prop), NsObj oC m₂ → m₂ x = some (.bool b) → Fr h₀ L h m → News h₀ L h ((I, oI) :: (C, oC) :: (D, lst []) :: news) → Off3 I C D news → ((@Ne Nat I C) ∧ (@Ne Nat I D) ∧ (@Ne Nat C D)) →
      wpAny (model prog w) A (isTrue ct (compEnvC scope cl C env) (eval ct (compEnvC scope cl C env))) (FiltEnd h₀ L m ((I, oI) :: (C, oC) :: (D, lst []) :: news) { s with heap := h, toks := tk }) E' { s with heap := h, toks := tk })
    (fin : Fin [] news) : ∀ k i, CompRestT prog w A h₀ L m env ct elt x scope cl s S P Fin k i [] news := by
  intro k
  induction k with
  | zero => exact fun _ => fin
  | succ k ih =>
    intro i
    refine CompRestT.succ ?_
    intro v I oI C oC D m₂ h tk E' hv hC hx F N off ne
    obtain ⟨b, rfl⟩ := hP i v hv
    refine wpAny_mono (turn b I oI C oC D m₂ h tk E' hC hx F N off ne) (fun ok s' hq => ?_) fun _ _ e => e
    obtain ⟨rfl, h', tk', rfl, F', N'⟩ := hq
    simp only [Bool.false_eq_true, if_false]
    exact CompEnd.intro F' N' news (fun p hp => hp) off hS (ih (i + 1))
theorem filt_none {ct elt iter : Expr} {x : Str} {px : Pos} {scope : Scope} {cl : List (Str × Addr)} {pos : Pos} {Q : Value → Shared → Prop} {ax : Addr} {its : Array Value} {k : Nat} {news : List (Addr × Obj)}
    (hh : A.handled = none) (F : Fr h₀ L s.heap m) (N : News h₀ L s.heap news) (hm : (ax, ({ cls := .type "list", data := .seq its k } : Obj)) ∈ news) (hsz : its.size ≤ sizeLine) (hb : boolsOnly its.toList = true)
    (hclos : closureFor scope env = pure cl) (hcell : ∀ y ∈ scope.names, y.2 ≠ .cell) (hkind : scope.kind = .function)
    (hnames : ∀ y ∈ scope.names, y.2 = .local → scope.names.lookup y.1 = some .local) (hx : scope.names.lookup x = some .local)
    (hit : ∀ (R : Value → Shared → Prop), R (.ref ax) s → wpAny (model prog w) A (eval iter env) R E s)
    (turn : ∀ b I oI C oC D m₂ h tk (E' : Value → Shared → Prop), NsObj oC m₂ → m₂ x = some (.bool b) → Fr h₀ L h m → News h₀ L h ((I, oI) :: (C, oC) :: (D, lst []) :: news) → Off3 I C D news → ((@Ne Nat I C) ∧ (@Ne Nat I D) ∧ (@Ne Nat C D)) →
      wpAny (model prog w) A (isTrue ct (compEnvC scope cl C env) (eval ct (compEnvC scope cl C env))) (FiltEnd h₀ L m ((I, oI) :: (C, oC) :: (D, lst []) :: news) { s with heap := h, toks := tk }) E' { s with heap := h, toks := tk })
    (done : ∀ D h tk, Fr h₀ L h m → News h₀ L h ((D, lst []) :: news) → Off1 D news → Q (.ref D) { s with heap := h, toks := tk })
    (hs : ∀ x, foldedSetIterable iter env x = pure x := by intro _; rfl) :
    wpAny (model prog w) A (eval (.ListComp elt [⟨.Name x px, iter, [ct], 0⟩] scope pos) env) Q E s := by
  refine ListComp_T F hclos hcell hkind hnames hx (hit _ ?_) hs
  refine CompSrcT.ledger hh F N hm hsz fun g => ?_
  refine rest_none (fun i v hv => boolsOnly_mem hb v (Array.mem_def.mp (Array.mem_of_getElem? hv))) (.inr ⟨_, hm, rfl, _, rfl⟩) ?_ ?_ _ _
  · intro b I oI C oC D m₂ h tk E' a1 a2 a3 a4 a5 a6
    exact turn b I oI C oC D m₂ h tk E' a1 a2 a3 a4 a5 a6
  · intro D h tk F' N' o1
    exact done D h tk F' N' o1
end
end Mine
namespace Mine
def dunder (n : Str) : Bool := decide ((4 : Int) < (n.length : Int)) && (Txt.slice n none (some 2) == Txt.slice n (some (-2)) none) && (Txt.slice n (some (-2)) none == Str.ofString "__") && (Txt.item n 2 != Str.ofString "_") && (Txt.item n (-3) != Str.ofString "_")
def sunder (n : Str) : Bool := decide ((2 : Int) < (n.length : Int)) && (Txt.item n 0 == Txt.item n (-1)) && (Txt.item n (-1) == Str.ofString "_") && (Txt.item n 1 != Str.ofString "_") && (Txt.item n (-2) != Str.ofString "_")
def priv (c n : Str) : Bool := decide (((((Str.ofString "_").length + c.length + (Str.ofString "__").length : Nat)) : Int) < (n.length : Int)) && Txt.startswith n (Str.ofString "_" ++ c ++ Str.ofString "__") && ((Txt.item n (-1) != Str.ofString "_") || (Txt.item n (-2) != Str.ofString "_"))
abbrev nameOf (a w b k c : Int) : Str := Txt.mul (Str.ofString "_") a ++ [Str.ofString "C", Str.ofString "D", Str.ofString "CD", Str.ofString "C_D"].getD w.toNat Str.empty ++ Txt.mul (Str.ofString "_") b ++ [Str.ofString "", Str.ofString "-", Str.ofString "x_y", Str.ofString "x__C"].getD k.toNat Str.empty ++ Txt.mul (Str.ofString "_") c
/-- what the law compares, the digits as letters -/
abbrev asks (a w b k c last : Int) : Bool :=
  dunder (nameOf a w b k c) == (a == 2 && last == 2) && (sunder (nameOf a w b k c) == (a == 1 && last == 1) &&
    (priv (Str.ofString "C") (nameOf a w b k c) == (a == 1 && (decide (2 ≤ b) && (decide (0 < k) && decide (c ≤ 1))) && (0 : Int) + ((0 : Nat) : Int) == w) &&
    (priv (Str.ofString "D") (nameOf a w b k c) == (a == 1 && (decide (2 ≤ b) && (decide (0 < k) && decide (c ≤ 1))) && (0 : Int) + ((0 + 1 : Nat) : Int) == w) &&
    (priv (Str.ofString "CD") (nameOf a w b k c) == (a == 1 && (decide (2 ≤ b) && (decide (0 < k) && decide (c ≤ 1))) && (0 : Int) + ((0 + 1 + 1 : Nat) : Int) == w) &&
    priv (Str.ofString "C_D") (nameOf a w b k c) == (a == 1 && (decide (2 ≤ b) && (decide (0 < k) && decide (c ≤ 1))) && (0 : Int) + ((0 + 1 + 1 + 1 : Nat) : Int) == w)))))
theorem tab00 : (([0, 1, 2, 3] : List Int).all fun b => ([0, 1, 2, 3] : List Int).all fun k => ([0, 1, 2, 3] : List Int).all fun c => asks 0 0 b k c (if k = 0 then b + c else c)) = true := by decide +kernel
theorem tab01 : (([0, 1, 2, 3] : List Int).all fun b => ([0, 1, 2, 3] : List Int).all fun k => ([0, 1, 2, 3] : List Int).all fun c => asks 0 1 b k c (if k = 0 then b + c else c)) = true := by decide +kernel
theorem tab02 : (([0, 1, 2, 3] : List Int).all fun b => ([0, 1, 2, 3] : List Int).all fun k => ([0, 1, 2, 3] : List Int).all fun c => asks 0 2 b k c (if k = 0 then b + c else c)) = true := by decide +kernel
theorem tab03 : (([0, 1, 2, 3] : List Int).all fun b => ([0, 1, 2, 3] : List Int).all fun k => ([0, 1, 2, 3] : List Int).all fun c => asks 0 3 b k c (if k = 0 then b + c else c)) = true := by decide +kernel
theorem tab10 : (([0, 1, 2, 3] : List Int).all fun b => ([0, 1, 2, 3] : List Int).all fun k => ([0, 1, 2, 3] : List Int).all fun c => asks 1 0 b k c (if k = 0 then b + c else c)) = true := by decide +kernel
theorem tab11 : (([0, 1, 2, 3] : List Int).all fun b => ([0, 1, 2, 3] : List Int).all fun k => ([0, 1, 2, 3] : List Int).all fun c => asks 1 1 b k c (if k = 0 then b + c else c)) = true := by decide +kernel
theorem tab12 : (([0, 1, 2, 3] : List Int).all fun b => ([0, 1, 2, 3] : List Int).all fun k => ([0, 1, 2, 3] : List Int).all fun c => asks 1 2 b k c (if k = 0 then b + c else c)) = true := by decide +kernel
theorem tab13 : (([0, 1, 2, 3] : List Int).all fun b => ([0, 1, 2, 3] : List Int).all fun k => ([0, 1, 2, 3] : List Int).all fun c => asks 1 3 b k c (if k = 0 then b + c else c)) = true := by decide +kernel
theorem tab20 : (([0, 1, 2, 3] : List Int).all fun b => ([0, 1, 2, 3] : List Int).all fun k => ([0, 1, 2, 3] : List Int).all fun c => asks 2 0 b k c (if k = 0 then b + c else c)) = true := by decide +kernel
theorem tab21 : (([0, 1, 2, 3] : List Int).all fun b => ([0, 1, 2, 3] : List Int).all fun k => ([0, 1, 2, 3] : List Int).all fun c => asks 2 1 b k c (if k = 0 then b + c else c)) = true := by decide +kernel
theorem tab22 : (([0, 1, 2, 3] : List Int).all fun b => ([0, 1, 2, 3] : List Int).all fun k => ([0, 1, 2, 3] : List Int).all fun c => asks 2 2 b k c (if k = 0 then b + c else c)) = true := by decide +kernel
theorem tab23 : (([0, 1, 2, 3] : List Int).all fun b => ([0, 1, 2, 3] : List Int).all fun k => ([0, 1, 2, 3] : List Int).all fun c => asks 2 3 b k c (if k = 0 then b + c else c)) = true := by decide +kernel
theorem tab30 : (([0, 1, 2, 3] : List Int).all fun b => ([0, 1, 2, 3] : List Int).all fun k => ([0, 1, 2, 3] : List Int).all fun c => asks 3 0 b k c (if k = 0 then b + c else c)) = true := by decide +kernel
theorem tab31 : (([0, 1, 2, 3] : List Int).all fun b => ([0, 1, 2, 3] : List Int).all fun k => ([0, 1, 2, 3] : List Int).all fun c => asks 3 1 b k c (if k = 0 then b + c else c)) = true := by decide +kernel
theorem tab32 : (([0, 1, 2, 3] : List Int).all fun b => ([0, 1, 2, 3] : List Int).all fun k => ([0, 1, 2, 3] : List Int).all fun c => asks 3 2 b k c (if k = 0 then b + c else c)) = true := by decide +kernel
theorem tab33 : (([0, 1, 2, 3] : List Int).all fun b => ([0, 1, 2, 3] : List Int).all fun k => ([0, 1, 2, 3] : List Int).all fun c => asks 3 3 b k c (if k = 0 then b + c else c)) = true := by decide +kernel
theorem four (n : Int) : n.fmod 4 ∈ ([0, 1, 2, 3] : List Int) := by
  have h := Int.fmod_eq_emod_of_nonneg n (show (0 : Int) ≤ 4 by decide)
  simp only [List.mem_cons, List.not_mem_nil, or_false]
  omega
theorem asks_of {a w b k c : Int} (ha : a ∈ ([0, 1, 2, 3] : List Int)) (hw : w ∈ ([0, 1, 2, 3] : List Int)) (hb : b ∈ ([0, 1, 2, 3] : List Int)) (hk : k ∈ ([0, 1, 2, 3] : List Int)) (hc : c ∈ ([0, 1, 2, 3] : List Int)) : asks a w b k c (if k = 0 then b + c else c) = true := by
  have use : ∀ {a w : Int}, (([0, 1, 2, 3] : List Int).all fun b => ([0, 1, 2, 3] : List Int).all fun k => ([0, 1, 2, 3] : List Int).all fun c => asks a w b k c (if k = 0 then b + c else c)) = true → asks a w b k c (if k = 0 then b + c else c) = true :=
    fun t => List.all_eq_true.mp (List.all_eq_true.mp (List.all_eq_true.mp t b hb) k hk) c hc
  simp only [List.mem_cons, List.not_mem_nil, or_false] at ha hw
  rcases ha with rfl | rfl | rfl | rfl <;> rcases hw with rfl | rfl | rfl | rfl
  · exact use tab00
  · exact use tab01
  · exact use tab02
  · exact use tab03
  · exact use tab10
  · exact use tab11
  · exact use tab12
  · exact use tab13
  · exact use tab20
  · exact use tab21
  · exact use tab22
  · exact use tab23
  · exact use tab30
  · exact use tab31
  · exact use tab32
  · exact use tab33
theorem end0 {n₁ n₂ n₃ n₄ n₅ : Int} (h0 : n₄.fmod 4 = 0) (h : asks (n₁.fmod 4) (n₂.fmod 4) (n₃.fmod 4) (n₄.fmod 4) (n₅.fmod 4) (n₃.fmod 4 + n₅.fmod 4) = false) : False := by
  have t := asks_of (four n₁) (four n₂) (four n₃) (four n₄) (four n₅)
  rw [if_pos h0, h] at t
  cases t
theorem end1 {n₁ n₂ n₃ n₄ n₅ : Int} (h0 : n₄.fmod 4 ≠ 0) (h : asks (n₁.fmod 4) (n₂.fmod 4) (n₃.fmod 4) (n₄.fmod 4) (n₅.fmod 4) (n₅.fmod 4) = false) : False := by
  have t := asks_of (four n₁) (four n₂) (four n₃) (four n₄) (four n₅)
  rw [if_neg h0, h] at t
  cases t
theorem mul_len (n : Int) : (Txt.mul (Str.ofString "_") (n.fmod 4)).length ≤ 3 := by
  have h := four n
  generalize n.fmod 4 = d at *
  simp only [List.mem_cons, List.not_mem_nil, or_false] at h
  rcases h with rfl | rfl | rfl | rfl <;> decide
theorem own_len (i : Nat) : ([Str.ofString "C", Str.ofString "D", Str.ofString "CD", Str.ofString "C_D"].getD i Str.empty).length ≤ 3 := by
  match i with
  | 0 => decide
  | 1 => decide
  | 2 => decide
  | 3 => decide
  | n + 4 => exact Nat.zero_le _
theorem word_len (i : Nat) : ([Str.ofString "", Str.ofString "-", Str.ofString "x_y", Str.ofString "x__C"].getD i Str.empty).length ≤ 4 := by
  match i with
  | 0 => decide
  | 1 => decide
  | 2 => decide
  | 3 => decide
  | n + 4 => exact Nat.zero_le _
end Mine
namespace Mine
theorem priv1 {c n : Str} (h : ¬ ((((Str.ofString "_").length + c.length + (Str.ofString "__").length : Nat)) : Int) < (n.length : Int)) : false = priv c n := by
  unfold priv; rw [decide_eq_false h]; rfl
theorem priv2 {c n : Str} (h : ((((Str.ofString "_").length + c.length + (Str.ofString "__").length : Nat)) : Int) < (n.length : Int)) (h2 : Txt.startswith n (Str.ofString "_" ++ c ++ Str.ofString "__") = false) : false = priv c n := by
  unfold priv; rw [h2, Bool.and_false]; rfl
theorem priv3 {c n : Str} (h : ((((Str.ofString "_").length + c.length + (Str.ofString "__").length : Nat)) : Int) < (n.length : Int)) (h2 : Txt.startswith n (Str.ofString "_" ++ c ++ Str.ofString "__") = true) (h3 : (Txt.item n (-1) != Str.ofString "_") = true) : true = priv c n := by
  unfold priv; rw [decide_eq_true h, h2, h3]; rfl
theorem priv4 {c n : Str} (h : ((((Str.ofString "_").length + c.length + (Str.ofString "__").length : Nat)) : Int) < (n.length : Int)) (h2 : Txt.startswith n (Str.ofString "_" ++ c ++ Str.ofString "__") = true) (h4 : (Txt.item n (-2) != Str.ofString "_") = true) : true = priv c n := by
  unfold priv; rw [decide_eq_true h, h2, h4, Bool.or_true]; rfl
theorem priv5 {c n : Str} (h3 : (Txt.item n (-1) != Str.ofString "_") = false) (h4 : (Txt.item n (-2) != Str.ofString "_") = false) : false = priv c n := by
  unfold priv; rw [h3, h4, Bool.or_false, Bool.and_false]
theorem own0 : (Str.ofString "C").length = 1 := by decide
theorem own1 : (Str.ofString "D").length = 1 := by decide
theorem own2 : (Str.ofString "CD").length = 2 := by decide
theorem own3 : (Str.ofString "C_D").length = 3 := by decide
end Mine
local macro_rules | `(tactic| walk_at "CompEnd") => `(tactic| (((rename News _ _ _ _ => nE'); (rename Fr _ _ _ _ => fE'); (refine LCg.CompEnd.intro fE' nE' _ (fun p hp => hp) ?ko ?ks ?_); (case ko => first | assumption | (simp only [LCg.Off3, and_true]; assumption)); (case ks => lcg_src))))
local macro_rules | `(tactic| walk_at "exec If") => `(tactic| ((with_reducible show wpAny _ _ (exec (Stmt.If _ [Stmt.Return _ _] [] _) _) _ _ _); refine wpAny_If ?_))
local macro_rules | `(tactic| walk_at "eval ListComp") => `(tactic| (k_here; (with_reducible show wpAny _ _ (eval (Expr.ListComp _ [⟨_, _, [_], _⟩] _ _) _) _ _ _); (with_unfolding_all (refine' Mine.filt_none ?jh ?jF ?jN ?jm ?js ?jb ?jc ?je ?jk ?jn ?jx ?ji ?jt ?jd; (case ji => (intro jR jhR; exact nameX_L (by k_asm) (by exact rfl) jhR)); (case jh => rfl); (case jF => k_asm); (case jN => k_asm); (case jm => k_mem); (case js => exact Nat.le_of_ble_eq_true rfl); (case jb => rfl); (case jc => rfl); (case je => decide); (case jk => rfl); (case jn => decide); (case jx => rfl))); (case' jt => ((intro jB jI joI jC joC jD jm2 jh jtk jE jNs jmx F' N' jOff jNe); (try simp only [LCg.Off3, and_true] at jOff); (try k_fold))); (case' jd => ((intro jD jh jtk F' N' jOff); (try simp only [LCg.Off1, and_true] at jOff); (try k_fold)))))
local macro_rules | `(tactic| walk_at "FiltEnd") => `(tactic| (with_unfolding_all refine Mine.FiltEnd.intro (by k_asm) (by k_asm)))
local macro_rules | `(tactic| walk_at "eval BoolOp") => `(tactic| (k_here; (with_reducible show wpAny _ _ (eval (Expr.BoolOp BoolOp.And [_, _] _) _) _ _ _); (refine' Mine.pure_use (Mine.and_more ?jc2 (Mine.and_one ?jd2)) ?_; (case jc2 => (intro jt jQ jhQ; (try dsimp only); k_steps; exact jhQ _)); (case jd2 => (intro jt jQ jhQ; (try dsimp only); k_steps; exact jhQ _)); intro jtk)))
local macro_rules | `(tactic| walk_at "eval BoolOp") => `(tactic| (k_here; (with_reducible show wpAny _ _ (eval (Expr.BoolOp BoolOp.And [_, _, _, _] _) _) _ _ _); (refine' Mine.pure_use (Mine.and_more ?jc (Mine.and_more ?jd (Mine.and_more ?jg (Mine.and_one ?jh)))) ?_; (case jc => (intro jt jQ jhQ; (try dsimp only); k_steps; exact jhQ _)); (case jd => (intro jt jQ jhQ; (try dsimp only); k_steps; exact jhQ _)); (case jg => (intro jt jQ jhQ; (try dsimp only); k_steps; exact jhQ _)); (case jh => (intro jt jQ jhQ; (try dsimp only); k_steps; exact jhQ _)); intro jtk)))
local macro_rules | `(tactic| walk_at "eval ListComp BoolOp") => `(tactic| (k_here; k_dflt (refine LCg.ListComp_U (F₀ := by k_asm) (by with_unfolding_all rfl) (by decide) (by rfl) (by decide) (by rfl) ?_); k_dflt lcg_toSrc))
local macro_rules | `(tactic| walk_at "CompSrc BoolOp") => `(tactic| (k_here; k_dflt (refine LCg.CompSrc.range (by rfl) (by k_asm) (by k_asm) (by assumption) (by first | decide | rfl) (by first | rfl | decide) (by exact Nat.le_of_ble_eq_true rfl) ?_; intro g'; lcg_lit)))
local macro_rules | `(tactic| walk_at "InvEndN") => `(tactic| (with_unfolding_all ((rename News _ _ _ _ => nE'); (refine Mine.cells_end (by assumption) nE' (by k_mem) (by k_mem) (by k_mem) (by k_mem) (by k_mem) (by k_mem) (by k_mem) (by k_mem) (by assumption) (by assumption) (by assumption) (by kst_same)))))
local macro_rules | `(tactic| walk_at "InvPostN cons cons ret") => `(tactic| first | exact (Mine.end0 (by assumption) (by assumption)).elim | exact (Mine.end1 (by assumption) (by assumption)).elim)
set_option maxRecDepth 100000 in
set_option maxHeartbeats 16000000 in
theorem PySem.Challenge.cw_dm0103_11_holds : PySem.Challenge.rw_dm0103_11.Holds := by
  k_with "exec For" => ((with_reducible show wpAny _ _ (exec (Stmt.For (Expr.Name _ _) (Expr.BinOp _ _ _ _) _ [] _) _) _ _ _); with_unfolding_all ((rename Fr _ _ _ _ => F'); (refine For_invVF F' (by rfl) (by rfl) ?_)))
  k_with "pyIter ref" => (k_of "x" => (k_here; (rename Fr _ _ _ _ => lF'); (rename News _ _ _ _ => lN'); (with_unfolding_all (refine' Mine.search_cells [Str.ofString "ahead", Str.ofString "between", Str.ofString "word", Str.ofString "behind", Str.ofString "told", Str.ofString "last", Str.ofString "due"] (by rfl) ?qi lF' lN' ?q1 ?q2 ?q3 ?qt ?qd; (case qi => l_ints); (case q1 => assumption); (case q2 => assumption); (case q3 => assumption))); (case' qt => ((intro kN kT kU kH kTk kI kO kA kB kC kv1 kv2 kv3 kMem kLt kd1 kd2 kd3 kFr kNews); (clear lF' lN'); (k_lt kLt); (try k_fold))); (case' qd => ((intro kU kH kTk kA kB kC kFr kNews); (clear lF' lN'); (try k_fold)))))
  k_with "eval Call Name cons nil" => refine Call_ ?_
  k_with "table" => skip
  k_with "ite" => ((first | (with_reducible show (if Txt.startswith _ _ = true then _ else _)) | (with_reducible show (if (Txt.item _ _ != _) = true then _ else _)) | (with_reducible show (if (Txt.item _ _ == _) = true then _ else _)) | (with_reducible show (if (Txt.slice _ _ _ == _) = true then _ else _))); ((with_reducible refine split_bool ?_ ?_) <;> intro _))
  k_with "tree" => (first | exact Mine.priv1 (by assumption) | exact Mine.priv3 (by assumption) (by assumption) (by assumption) | exact Mine.priv4 (by assumption) (by assumption) (by assumption) | exact Mine.priv5 (by assumption) (by assumption) | exact Mine.priv2 (by assumption) (by assumption) | ((simp only [Mine.dunder, Mine.sunder, Mine.priv]); (simp only [*]); (simp; done)))
  k_with "binaryOp Add str str" => (k_here; (have b0 := Mine.own0); (have b1 := Mine.own1); (have b2 := Mine.own2); (have b3 := Mine.own3); (have a0 := Mine.mul_len kN); (have a1 := Mine.own_len ((kN.fdiv 4).fmod 4).toNat); (have a2 := Mine.mul_len ((kN.fdiv 4).fdiv 4)); (have a3 := Mine.word_len ((((kN.fdiv 4).fdiv 4).fdiv 4).fmod 4).toNat); (have a4 := Mine.mul_len ((((kN.fdiv 4).fdiv 4).fdiv 4).fdiv 4)); (refine SBL.add (hsz := ?jh) ?_); (case jh => ((try simp only [Str.length_append]); rw [sizeLine_eq]; omega)); intro _ _ _)
  k_with "call builtin:len" => ((with_reducible show wpAny _ _ (call (Value.builtin "len") [Value.str _ _]) _ _ _); (refine SBL.len (by omega) ?_))
  k_with "call ref" => k_call_by "_is_dunder" Mine.dunder (fun n => n.length ≤ 1000)
  k_with "call ref" => k_call_by "_is_sunder" Mine.sunder (fun n => n.length ≤ 1000)
  k_with "call ref" => k_call_by "_is_private" Mine.priv (fun c n => c.length + n.length ≤ 2000)
  open_k
