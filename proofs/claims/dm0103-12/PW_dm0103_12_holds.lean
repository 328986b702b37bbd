import PyProof.Rows.All
import Wide.All
import OpenK.AllK
import Wide.FinOn
import PySem.Challenge.RW_dm0103_12
open PySem PySem.W PyProof.Rows
set_option Elab.async false
namespace Mine
section
variable {prog : Program} {w : World} {A : Around} {E : Value → Shared → Prop} {s : Shared} {env : Env} {h₀ : Heap} {x : Str} {body : List Stmt} {Q : Flow → Shared → Prop}
/-- a turn's end: the ledger nx (it may have grown), the list that is walked in it, the iterator (I, oI) beside it -/
def GrowEnd (h₀ : Heap) (L : Addr) (l : Addr) (o : Obj) (I : Addr) (oI : Obj) (J : (Str → Option Value) → List (Addr × Obj) → Prop) (s₁ s₂ : Shared) : Prop :=
  ∃ h' tk m' nx, s₂ = { s₁ with heap := h', toks := tk } ∧ Fr h₀ L h' m' ∧ News h₀ L h' ((I, oI) :: nx) ∧ (l, o) ∈ nx ∧ (∀ p ∈ nx, p.1 ≠ I) ∧ J m' nx
def GrowPost (h₀ : Heap) (L : Addr) (l : Addr) (o : Obj) (I : Addr) (oI : Obj) (J : (Str → Option Value) → List (Addr × Obj) → Prop) (s₁ : Shared) (Q : Flow → Shared → Prop) (f : Flow) (s₂ : Shared) : Prop :=
  match f with
  | .ret v => Q (.ret v) s₂
  | .brk => Q .next s₂
  | _ => GrowEnd h₀ L l o I oI J s₁ s₂
/-- a loop over a list of the ledger's, its invariant over a ledger that may grow -/
theorem loop_grow {l : Addr} {vs : List Value} {nn : Nat} {m₀ : Str → Option Value} {news : List (Addr × Obj)} (J : Nat → (Str → Option Value) → List (Addr × Obj) → Prop)
    (hh : A.handled = none) (hl : (l, W.listOf vs.toArray nn) ∈ news) (F : Fr h₀ env.locals s.heap m₀) (N : News h₀ env.locals s.heap news) (hj : J 0 m₀ news)
    (turn : ∀ (i : Nat) v m₁ nx h tk oI, vs[i]? = some v → J i m₁ nx → (l, W.listOf vs.toArray nn) ∈ nx → (∀ p ∈ nx, p.1 ≠ s.heap.objs.size) → Fr h₀ env.locals h (fun y => if y = x then some v else m₁ y) → News h₀ env.locals h (nx ++ [(s.heap.objs.size, oI)]) →
      wpAny (model prog w) A (execs body env) (GrowPost h₀ env.locals l (W.listOf vs.toArray nn) s.heap.objs.size oI (J (i + 1)) { s with heap := h, toks := tk } Q) E { s with heap := h, toks := tk })
    (done : ∀ m₁ nx h tk, J vs.length m₁ nx → (l, W.listOf vs.toArray nn) ∈ nx → Fr h₀ env.locals h m₁ → News h₀ env.locals h nx → Q .next { s with heap := h, toks := tk }) :
    wpAny (model prog w) A (pyIter (.ref l)) (fun it s₂ => LoopAtV prog w A h₀ env x body Q E it s₂) E s := by
  have hol := (N _ hl).1
  have hls : s.heap.IsList l vs.toArray := ⟨_, hol, rfl, nn, rfl⟩
  have hne : l ≠ s.heap.objs.size := Nat.ne_of_lt (Heap.lt_size hol)
  have hlt : ∀ p ∈ news, p.1 ≠ s.heap.objs.size := fun p hp => Nat.ne_of_lt (Heap.lt_size (N p hp).1)
  refine wpAny_pyIter_list hls ?_
  have WK := Walks.list (prog := prog) (w := w) hh s.heap.objs.size l hne vs.toArray
  refine ⟨_, _, _, vs.toArray.size, _, _, m₀, news, (fun i m nx => (l, W.listOf vs.toArray nn) ∈ nx ∧ J i m nx), rfl, WK, ?_, ?_, ?_, ⟨⟨_, Heap.get?_push_size _ rfl, rfl, rfl⟩, hls.at fun o e => Heap.get?_push_of_some _ e⟩, F.push _, (fun p hp => ⟨Heap.get?_push_of_some _ (N p hp).1, (N p hp).2⟩), ⟨hl, hj⟩, ?_, ?_⟩
  · intro hm
    rcases List.mem_cons.mp hm with e | hm
    · exact absurd F.ns.lt (e ▸ Nat.lt_irrefl _)
    · exact (N _ hl).2.1 ((List.mem_singleton.mp hm).symm)
  · intro b hb
    rw [List.mem_singleton.mp hb]
    exact next_is_new F
  · intro p hp hI
    exact hlt p hp (List.mem_singleton.mp hI)
  · rintro i v m₁ nx s₁ own ⟨h, tk, rfl⟩ hin hP ⟨hl₁, hJ⟩ hoff hown hget hfp hst F₁ N₁
    obtain ⟨oI, hoI, _⟩ := hst.1
    have hI : (s.heap.objs.size, oI) ∈ own := hfp _ (List.mem_cons_self) (next_is_new F) oI hoI
    have hoff' : ∀ p ∈ nx, p.1 ≠ s.heap.objs.size := fun p hp e => hoff p hp (by rw [e]; exact List.mem_cons_self)
    have N₂ : News h₀ env.locals h (nx ++ [(s.heap.objs.size, oI)]) := fun p hp => N₁ p (by
      rcases List.mem_append.mp hp with hp | hp
      · exact List.mem_append.mpr (.inr hp)
      · rw [List.mem_singleton.mp hp]; exact List.mem_append.mpr (.inl hI))
    have hlo : h.get? l = some (W.listOf vs.toArray nn) := (N₁ _ (List.mem_append.mpr (.inr hl₁))).1
    have hP' : vs[i]? = some v := by simpa using hP
    refine wpAny_mono (turn i v m₁ nx h tk oI hP' hJ hl₁ hoff' F₁ N₂) (fun f s₂ p => ?_) fun _ _ e => e
    have fin : GrowEnd h₀ env.locals l (W.listOf vs.toArray nn) s.heap.objs.size oI (J (i + 1)) { s with heap := h, toks := tk } s₂ →
        LoopStepU h₀ env.locals [s.heap.objs.size] own (fun m nx => (l, W.listOf vs.toArray nn) ∈ nx ∧ J (i + 1) m nx) { s with heap := h, toks := tk } .next s₂ := by
      rintro ⟨h', tk', m', nx', e, F', N', hl', ho', hJ'⟩
      refine ⟨rfl, h', tk', m', nx', e, F', fun p hp => ?_, fun p hp hq => ho' p hp (List.mem_singleton.mp hq), hl', hJ'⟩
      rcases List.mem_append.mp hp with hp | hp
      · have hg : h.get? p.1 = some p.2 := hget p hp
        rcases List.mem_cons.mp (hown p hp) with e1 | e1
        · have : p = (s.heap.objs.size, oI) := Prod.ext e1 (by rw [e1] at hg; exact Option.some.inj (hg.symm.trans hoI))
          rw [this]
          exact N' _ List.mem_cons_self
        · have e2 := List.mem_singleton.mp e1
          have : p = (l, W.listOf vs.toArray nn) := Prod.ext e2 (by rw [e2] at hg; exact Option.some.inj (hg.symm.trans hlo))
          rw [this]
          exact N' _ (List.mem_cons_of_mem _ hl')
      · exact N' p (List.mem_cons_of_mem _ hp)
    cases f with
    | ret v => exact .ret p
    | brk => exact .brk p
    | next => exact .next (fin p)
    | cont => exact .cont (fin p)
  · rintro h' tk m' nx F' N' _ ⟨hl', hJ⟩
    exact done m' nx h' tk (by simpa using hJ) hl' F' N'
end
end Mine
namespace Mine
section
variable {prog : Program} {w : World} {A : Around} {E : Value → Shared → Prop} {s : Shared} {env : Env} {h₀ : Heap} {x : Str} {body : List Stmt} {Q : Flow → Shared → Prop}
theorem kept_of {stored : List Str} {m₀ m₁ : Str → Option Value} (hm : ∀ z, z ≠ x → stored.contains z = false → m₁ z = m₀ z) : ∀ y, y ≠ x → (if stored.contains y then m₁ y else m₀ y) = m₁ y := by
  intro y hy
  cases h3 : stored.contains y with
  | true => simp
  | false => simp only [Bool.false_eq_true, if_false]; exact (hm y hy h3).symm
theorem kept_turn {stored : List Str} {m₀ m₁ : Str → Option Value} {v : Option Value} (hm : ∀ z, z ≠ x → stored.contains z = false → m₁ z = m₀ z) :
    (fun y => if y = x then v else if stored.contains y then m₁ y else m₀ y) = fun y => if y = x then v else m₁ y := by
  funext y
  by_cases hy : y = x
  · rw [if_pos hy, if_pos hy]
  · rw [if_neg hy, if_neg hy]; exact kept_of hm y hy
theorem kept_done {stored : List Str} {m₀ m₁ : Str → Option Value} (hm : ∀ z, z ≠ x → stored.contains z = false → m₁ z = m₀ z) :
    (fun y => if y = x then m₁ y else if stored.contains y then m₁ y else m₀ y) = m₁ := by
  funext y
  by_cases hy : y = x
  · rw [if_pos hy]
  · rw [if_neg hy]; exact kept_of hm y hy
/-- a turn's end where the ledger that stood is as it stood -/
def SameEnd (h₀ : Heap) (L I : Addr) (oI : Obj) (news : List (Addr × Obj)) (x : Str) (stored : List Str) (m₀ : Str → Option Value) (s₁ s₂ : Shared) : Prop :=
  ∃ h' tk m', s₂ = { s₁ with heap := h', toks := tk } ∧ Fr h₀ L h' m' ∧ News h₀ L h' ((I, oI) :: news) ∧ ∀ z, z ≠ x → stored.contains z = false → m' z = m₀ z
def SamePost (h₀ : Heap) (L I : Addr) (oI : Obj) (news : List (Addr × Obj)) (x : Str) (stored : List Str) (m₀ : Str → Option Value) (s₁ : Shared) (Q : Flow → Shared → Prop) (f : Flow) (s₂ : Shared) : Prop :=
  match f with
  | .ret v => Q (.ret v) s₂
  | .brk => Q .next s₂
  | _ => SameEnd h₀ L I oI news x stored m₀ s₁ s₂
theorem SameEnd.intro {L I : Addr} {oI : Obj} {news all : List (Addr × Obj)} {stored : List Str} {m₀ m' : Str → Option Value} {s₁ : Shared} {h' : Heap} {tk : Nat}
    (F : Fr h₀ L h' m') (N : News h₀ L h' all) (hn : ∀ p ∈ (I, oI) :: news, p ∈ all) (hm : ∀ z, z ≠ x → stored.contains z = false → m' z = m₀ z) : SameEnd h₀ L I oI news x stored m₀ s₁ { s₁ with heap := h', toks := tk } :=
  ⟨h', tk, m', rfl, F, fun p hp => N p (hn p hp), hm⟩
/-- what every text of a list of texts is -/
def TextsIn (vs : List Value) (b : Nat) : Prop := ∀ v ∈ vs, ∃ (y : Str) (t : Tok), v = .str y t ∧ y.length ≤ b
/-- a search over a list of texts of the ledger's -/
theorem search_texts {l : Addr} {vs : List Value} {b nn : Nat} {m₀ : Str → Option Value} {news : List (Addr × Obj)} (stored : List Str)
    (hh : A.handled = none) (hl : (l, W.listOf vs.toArray nn) ∈ news) (hi : TextsIn vs b) (F : Fr h₀ env.locals s.heap m₀) (N : News h₀ env.locals s.heap news)
    (turn : ∀ (y : Str) t (u : Str → Option Value) h tk (I : Addr) oI, y.length ≤ b → (∀ p ∈ news, p.1 < I) → Fr h₀ env.locals h (fun z => if z = x then some (.str y t) else if stored.contains z then u z else m₀ z) → News h₀ env.locals h (news ++ [(I, oI)]) →
      wpAny (model prog w) A (execs body env) (SamePost h₀ env.locals I oI news x stored m₀ { s with heap := h, toks := tk } Q) E { s with heap := h, toks := tk })
    (done : ∀ (u : Str → Option Value) h tk, Fr h₀ env.locals h (fun y => if y = x then u y else if stored.contains y then u y else m₀ y) → News h₀ env.locals h news → Q .next { s with heap := h, toks := tk }) :
    wpAny (model prog w) A (pyIter (.ref l)) (fun it s₂ => LoopAtV prog w A h₀ env x body Q E it s₂) E s := by
  refine loop_grow (fun _ m nx => nx = news ∧ ∀ z, z ≠ x → stored.contains z = false → m z = m₀ z) hh hl F N ⟨rfl, fun _ _ _ => rfl⟩ ?_ ?_
  · rintro i v m₁ nx h tk oI hv ⟨rfl, hm⟩ hl₁ hoff F₁ N₁
    obtain ⟨y, t, rfl, hy⟩ := hi v (List.mem_of_getElem? hv)
    refine wpAny_mono (turn y t m₁ h tk s.heap.objs.size oI hy (fun p hp => Heap.lt_size (N p hp).1) (by rw [kept_turn hm]; exact F₁) N₁) (fun f s₂ p => ?_) fun _ _ e => e
    have fin : SameEnd h₀ env.locals s.heap.objs.size oI nx x stored m₀ { s with heap := h, toks := tk } s₂ →
        GrowEnd h₀ env.locals l (W.listOf vs.toArray nn) s.heap.objs.size oI (fun m nx' => nx' = nx ∧ ∀ z, z ≠ x → stored.contains z = false → m z = m₀ z) { s with heap := h, toks := tk } s₂ := by
      rintro ⟨h', tk', m', e, F', N', hz⟩
      exact ⟨h', tk', m', _, e, F', N', hl₁, hoff, rfl, hz⟩
    cases f with
    | ret v => exact p
    | brk => exact p
    | next => exact fin p
    | cont => exact fin p
  · rintro m₁ nx h tk ⟨rfl, hm⟩ hl' F₁ N₁
    exact done m₁ h tk (by rw [kept_done hm]; exact F₁) N₁
/-- a search over a range -/
theorem search_range {r : Addr} {a b : Int} {t₀ u₀ v₀ : Tok} {n : Nat} {m₀ : Str → Option Value} {news : List (Addr × Obj)} (stored : List Str)
    (hh : A.handled = none) (hr : IsRange s.heap r a b 1 t₀ u₀ v₀) (hsm : Builtin.Range.small a b 1 = true) (hn : Builtin.Range.rangeSize a b 1 = ((n : Nat) : Int)) (F : Fr h₀ env.locals s.heap m₀) (N : News h₀ env.locals s.heap news)
    (turn : ∀ (k : Int) t (u : Str → Option Value) h tk (I : Addr) oI, a ≤ k → k < a + (n : Int) → (∀ p ∈ news, p.1 < I) → Fr h₀ env.locals h (fun z => if z = x then some (.int k t) else if stored.contains z then u z else m₀ z) → News h₀ env.locals h (news ++ [(I, oI)]) →
      wpAny (model prog w) A (execs body env) (SamePost h₀ env.locals I oI news x stored m₀ { s with heap := h, toks := tk } Q) E { s with heap := h, toks := tk })
    (done : ∀ (u : Str → Option Value) h tk, Fr h₀ env.locals h (fun y => if y = x then u y else if stored.contains y then u y else m₀ y) → News h₀ env.locals h news → Q .next { s with heap := h, toks := tk }) :
    wpAny (model prog w) A (pyIter (.ref r)) (fun it s₂ => LoopAtV prog w A h₀ env x body Q E it s₂) E s := by
  have hlt : ∀ p ∈ news, p.1 ≠ s.heap.objs.size := fun p hp => Nat.ne_of_lt (Heap.lt_size (N p hp).1)
  refine wpAny_pyIter_range hr hsm ?_
  have WK := LCg.range_walks (prog := prog) (w := w) (A := A) (I := s.heap.objs.size) hh a n
  refine ⟨_, _, _, n, _, _, m₀, news, (fun _ m nx => nx = news ∧ ∀ z, z ≠ x → stored.contains z = false → m z = m₀ z), rfl, WK, ?_, ?_, ?_, ?_, F.push _, (fun p hp => ⟨Heap.get?_push_of_some _ (N p hp).1, (N p hp).2⟩), ⟨rfl, fun _ _ _ => rfl⟩, ?_, ?_⟩
  · intro hm
    exact absurd F.ns.lt ((List.mem_singleton.mp hm) ▸ Nat.lt_irrefl _)
  · intro b hb
    rw [List.mem_singleton.mp hb]
    exact next_is_new F
  · intro p hp hI
    exact hlt p hp (List.mem_singleton.mp hI)
  · show IsRangeIter _ _ _ _ _
    rw [hn]; simpa using Heap.get?_push_size _ rfl
  · rintro i v m₁ nx s₁ own ⟨h, tk, rfl⟩ hin ⟨t, rfl⟩ ⟨rfl, hm⟩ hoff hown hget hfp hst F₁ N₁
    have hoI : h.get? s.heap.objs.size = some _ := hst
    have hI := hfp _ List.mem_cons_self (next_is_new F) _ hoI
    revert hI hoI
    generalize ({ cls := .type "range_iterator", data := .fields #[rawInt (a + ((i + 1 : Nat) : Int) * 1), rawInt ((n : Int) - ((i + 1 : Nat) : Int)), rawInt 1] } : Obj) = oI
    intro hoI hI
    have N₂ : News h₀ env.locals h (nx ++ [(s.heap.objs.size, oI)]) := fun p hp => N₁ p (by
      rcases List.mem_append.mp hp with hp | hp
      · exact List.mem_append.mpr (.inr hp)
      · rw [List.mem_singleton.mp hp]; exact List.mem_append.mpr (.inl hI))
    refine wpAny_mono (turn (a + (i : Int)) t m₁ h tk s.heap.objs.size oI (by omega) (by omega) (fun p hp => Heap.lt_size (N p hp).1) (by rw [kept_turn hm]; exact F₁) N₂) (fun f s₂ p => ?_) fun _ _ e => e
    have fin : SameEnd h₀ env.locals s.heap.objs.size oI nx x stored m₀ { s with heap := h, toks := tk } s₂ →
        LoopStepU h₀ env.locals [s.heap.objs.size] own (fun m nx' => nx' = nx ∧ ∀ z, z ≠ x → stored.contains z = false → m z = m₀ z) { s with heap := h, toks := tk } .next s₂ := by
      rintro ⟨h', tk', m', e, F', N', hz⟩
      refine ⟨rfl, h', tk', m', nx, e, F', fun p hp => ?_, fun p hp hq => hlt p hp (List.mem_singleton.mp hq), rfl, hz⟩
      rcases List.mem_append.mp hp with hp | hp
      · have hg : h.get? p.1 = some p.2 := hget p hp
        have e1 := List.mem_singleton.mp (hown p hp)
        have : p = (s.heap.objs.size, oI) := Prod.ext e1 (by rw [e1] at hg; exact Option.some.inj (hg.symm.trans hoI))
        rw [this]
        exact N' _ List.mem_cons_self
      · exact N' p (List.mem_cons_of_mem _ hp)
    cases f with
    | ret v => exact .ret p
    | brk => exact .brk p
    | next => exact .next (fin p)
    | cont => exact .cont (fin p)
  · rintro h' tk m' nx F' N' _ ⟨rfl, hm⟩
    exact done m' h' tk (by rw [kept_done hm]; exact F') N'
end
end Mine
namespace Mine
section
variable {M : Model} {A : Around} {E : Value → Shared → Prop} {s : Shared} {env : Env}
/-- an expression that gives a truth value and changes nothing but the count of the texts' marks -/
abbrev PureB (M : Model) (A : Around) (E : Value → Shared → Prop) (env : Env) (s : Shared) (e : Expr) (b : Bool) : Prop :=
  ∀ tk (Q : Value → Shared → Prop), (∀ tk', Q (.bool b) { s with toks := tk' }) → wpAny M A (eval e env) Q E { s with toks := tk }
theorem and_one {e pos b} (h : PureB M A E env s e b) : PureB M A E env s (.BoolOp .And [e] pos) b := fun tk Q hQ => BoolOp_one (h tk Q hQ)
theorem and_more {e₁ e₂ rest pos b₁ b₂} (h₁ : PureB M A E env s e₁ b₁) (h₂ : PureB M A E env s (.BoolOp .And (e₂ :: rest) pos) b₂) : PureB M A E env s (.BoolOp .And (e₁ :: e₂ :: rest) pos) (b₁ && b₂) := by
  intro tk Q hQ
  refine BoolOp_and (h₁ tk _ fun tk' => ?_)
  show wpAny M A (pure b₁) _ E _
  refine wpAny_pure ?_
  cases b₁ with
  | false => exact hQ tk'
  | true => exact h₂ tk' Q hQ
theorem pure_use {e : Expr} {b : Bool} {Q : Value → Shared → Prop} (h : PureB M A E env s e b) (hQ : ∀ tk, Q (.bool b) { s with toks := tk }) : wpAny M A (eval e env) Q E s := h s.toks Q hQ
end
section
open LCg LCt
variable {prog : Program} {w : World} {A : Around} {E : Value → Shared → Prop} {s : Shared} {h₀ : Heap} {L : Addr} {m : Str → Option Value} {env : Env}
def FiltEnd (h₀ : Heap) (L : Addr) (m : Str → Option Value) (news : List (Addr × Obj)) (s₁ : Shared) (ok : Bool) (s₂ : Shared) : Prop :=
  ok = false ∧ ∃ h' tk, s₂ = { s₁ with heap := h', toks := tk } ∧ Fr h₀ L h' m ∧ News h₀ L h' news
theorem FiltEnd.intro {news : List (Addr × Obj)} {h' : Heap} {tk : Nat} (F : Fr h₀ L h' m) (N : News h₀ L h' news) : FiltEnd h₀ L m news s false { s with heap := h', toks := tk } := ⟨rfl, h', tk, rfl, F, N⟩
def boolsOnly : List Value → Bool
  | [] => true
  | .bool _ :: r => boolsOnly r
  | _ :: _ => false
theorem boolsOnly_mem : ∀ {l : List Value}, boolsOnly l = true → ∀ v ∈ l, ∃ b, v = .bool b
  | [], _, _, h => nomatch h
  | .bool b :: r, h, v, hv => by
    rcases List.mem_cons.mp hv with rfl | hv
    · exact ⟨b, rfl⟩
    · exact boolsOnly_mem (l := r) h v hv
  | .int _ _ :: _, h, _, _ => nomatch h
  | .str _ _ :: _, h, _, _ => nomatch h
  | .ref _ :: _, h, _, _ => nomatch h
  | .none :: _, h, _, _ => nomatch h
/-- a filter that keeps nothing of a list of truth values -/
theorem rest_none {ct elt : Expr} {x : Str} {scope : Scope} {cl : List (Str × Addr)} {S : List (Addr × Obj) → Prop} {P : Nat → Value → Prop} {Fin : List Value → List (Addr × Obj) → Prop} {news : List (Addr × Obj)}
    (hP : ∀ i v, P i v → ∃ b, v = .bool b) (hS : S news)
    (turn : ∀ b I oI C oC D m₂ h tk (E' : Value → Shared → Prop), NsObj oC m₂ → m₂ x = some (.bool b) → Fr h₀ L h m → News h₀ L h ((I, oI) :: (C, oC) :: (D, lst []) :: news) → Off3 I C D news → ((@Ne Nat I C) ∧ (@Ne Nat I D) ∧ (@Ne Nat C D)) →
      wpAny (model prog w) A (isTrue ct (compEnvC scope cl C env) (eval ct (compEnvC scope cl C env))) (FiltEnd h₀ L m ((I, oI) :: (C, oC) :: (D, lst []) :: news) { s with heap := h, toks := tk }) E' { s with heap := h, toks := tk })
    (fin : Fin [] news) : ∀ k i, CompRestT prog w A h₀ L m env ct elt x scope cl s S P Fin k i [] news := by
  intro k
  induction k with
  | zero => exact fun _ => fin
  | succ k ih =>
    intro i
    refine CompRestT.succ ?_
    intro v I oI C oC D m₂ h tk E' hv hC hx F N off ne
    obtain ⟨b, rfl⟩ := hP i v hv
    refine wpAny_mono (turn b I oI C oC D m₂ h tk E' hC hx F N off ne) (fun ok s' hq => ?_) fun _ _ e => e
    obtain ⟨rfl, h', tk', rfl, F', N'⟩ := hq
    simp only [Bool.false_eq_true, if_false]
    exact CompEnd.intro F' N' news (fun p hp => hp) off hS (ih (i + 1))
theorem filt_none {ct elt iter : Expr} {x : Str} {px : Pos} {scope : Scope} {cl : List (Str × Addr)} {pos : Pos} {Q : Value → Shared → Prop} {ax : Addr} {its : Array Value} {k : Nat} {news : List (Addr × Obj)}
    (hh : A.handled = none) (F : Fr h₀ L s.heap m) (N : News h₀ L s.heap news) (hm : (ax, ({ cls := .type "list", data := .seq its k } : Obj)) ∈ news) (hsz : its.size ≤ sizeLine) (hb : boolsOnly its.toList = true)
    (hclos : closureFor scope env = pure cl) (hcell : ∀ y ∈ scope.names, y.2 ≠ .cell) (hkind : scope.kind = .function)
    (hnames : ∀ y ∈ scope.names, y.2 = .local → scope.names.lookup y.1 = some .local) (hx : scope.names.lookup x = some .local)
    (hit : ∀ (R : Value → Shared → Prop), R (.ref ax) s → wpAny (model prog w) A (eval iter env) R E s)
    (turn : ∀ b I oI C oC D m₂ h tk (E' : Value → Shared → Prop), NsObj oC m₂ → m₂ x = some (.bool b) → Fr h₀ L h m → News h₀ L h ((I, oI) :: (C, oC) :: (D, lst []) :: news) → Off3 I C D news → ((@Ne Nat I C) ∧ (@Ne Nat I D) ∧ (@Ne Nat C D)) →
      wpAny (model prog w) A (isTrue ct (compEnvC scope cl C env) (eval ct (compEnvC scope cl C env))) (FiltEnd h₀ L m ((I, oI) :: (C, oC) :: (D, lst []) :: news) { s with heap := h, toks := tk }) E' { s with heap := h, toks := tk })
    (done : ∀ D h tk, Fr h₀ L h m → News h₀ L h ((D, lst []) :: news) → Off1 D news → Q (.ref D) { s with heap := h, toks := tk })
    (hs : ∀ x, foldedSetIterable iter env x = pure x := by intro _; rfl) :
    wpAny (model prog w) A (eval (.ListComp elt [⟨.Name x px, iter, [ct], 0⟩] scope pos) env) Q E s := by
  refine ListComp_T F hclos hcell hkind hnames hx (hit _ ?_) hs
  refine CompSrcT.ledger hh F N hm hsz fun g => ?_
  refine rest_none (fun i v hv => boolsOnly_mem hb v (Array.mem_def.mp (Array.mem_of_getElem? hv))) (.inr ⟨_, hm, rfl, _, rfl⟩) ?_ ?_ _ _
  · intro b I oI C oC D m₂ h tk E' a1 a2 a3 a4 a5 a6
    exact turn b I oI C oC D m₂ h tk E' a1 a2 a3 a4 a5 a6
  · intro D h tk F' N' o1
    exact done D h tk F' N' o1
end
end Mine
namespace Mine
section
variable {prog : Program} {w : World} {A : Around} {E : Value → Shared → Prop} {s : Shared} {env : Env} {h₀ : Heap} {x : Str} {body : List Stmt} {Q : Flow → Shared → Prop}
def WordsEnd (h₀ : Heap) (L I : Addr) (oI : Obj) (p : Addr × Obj) (lw : Addr) (b : Nat) (x : Str) (m₀ : Str → Option Value) (s₁ s₂ : Shared) : Prop :=
  ∃ h' tk m' pre y ty c, s₂ = { s₁ with heap := h', toks := tk } ∧ Fr h₀ L h' m' ∧ News h₀ L h' [(I, oI), p, (lw, W.listOf (pre ++ [Value.str y ty]).toArray c)] ∧ pre.length ≤ b ∧ TextsIn pre b ∧ y.length ≤ b ∧ ∀ z, z ≠ x → m' z = m₀ z
def WordsPost (h₀ : Heap) (L I : Addr) (oI : Obj) (p : Addr × Obj) (lw : Addr) (b : Nat) (x : Str) (m₀ : Str → Option Value) (s₁ : Shared) (Q : Flow → Shared → Prop) (f : Flow) (s₂ : Shared) : Prop :=
  match f with
  | .ret v => Q (.ret v) s₂
  | .brk => Q .next s₂
  | _ => WordsEnd h₀ L I oI p lw b x m₀ s₁ s₂
theorem TextsIn.le {vs : List Value} {a b : Nat} (h : TextsIn vs a) (hb : a ≤ b) : TextsIn vs b := fun v hv => let ⟨y, t, e, hy⟩ := h v hv; ⟨y, t, e, Nat.le_trans hy hb⟩
theorem TextsIn.snoc {vs : List Value} {b : Nat} {y : Str} {t : Tok} (h : TextsIn vs b) (hy : y.length ≤ b) : TextsIn (vs ++ [.str y t]) b := fun v hv => by
  rcases List.mem_append.mp hv with hv | hv
  · exact h v hv
  · exact ⟨y, t, List.mem_singleton.mp hv, hy⟩
theorem WordsEnd.app {L I lw : Addr} {oI : Obj} {p : Addr × Obj} {i c : Nat} {m₀ m' : Str → Option Value} {s₁ : Shared} {h' : Heap} {tk : Nat} {pre : List Value} {y e : Str} {ty te : Tok} {all : List (Addr × Obj)}
    (F : Fr h₀ L h' m') (N : News h₀ L h' all) (n1 : (I, oI) ∈ all) (n2 : p ∈ all) (n3 : (lw, W.listOf ((pre ++ [Value.str y ty]).toArray.push (.str e te)) c) ∈ all) (hp : pre.length ≤ i) (ht : TextsIn pre i) (hy : y.length ≤ i) (he : e.length = 0) (hm : ∀ z, z ≠ x → m' z = m₀ z) :
    WordsEnd h₀ L I oI p lw (i + 1) x m₀ s₁ { s₁ with heap := h', toks := tk } := by
  refine ⟨h', tk, m', pre ++ [.str y ty], e, te, c, rfl, F, fun q hq => ?_, by simp; omega, (ht.le (by omega)).snoc (by omega), by omega, hm⟩
  simp only [List.mem_cons, List.not_mem_nil, or_false] at hq
  rcases hq with rfl | rfl | rfl
  · exact N _ n1
  · exact N _ n2
  · have := N _ n3
    rwa [List.push_toArray] at this
theorem WordsEnd.put {L I lw : Addr} {oI : Obj} {p : Addr × Obj} {i c : Nat} {m₀ m' : Str → Option Value} {s₁ : Shared} {h' : Heap} {tk : Nat} {pre : List Value} {y e : Str} {te : Tok} {all : List (Addr × Obj)}
    (F : Fr h₀ L h' m') (N : News h₀ L h' all) (n1 : (I, oI) ∈ all) (n2 : p ∈ all) (n3 : (lw, W.listOf (pre ++ [Value.str e te]).toArray c) ∈ all) (hp : pre.length ≤ i) (ht : TextsIn pre i) (hy : y.length ≤ i) (he : e.length ≤ y.length + 1) (hm : ∀ z, z ≠ x → m' z = m₀ z) :
    WordsEnd h₀ L I oI p lw (i + 1) x m₀ s₁ { s₁ with heap := h', toks := tk } := by
  refine ⟨h', tk, m', pre, e, te, c, rfl, F, fun q hq => ?_, by omega, ht.le (by omega), by omega, hm⟩
  simp only [List.mem_cons, List.not_mem_nil, or_false] at hq
  rcases hq with rfl | rfl | rfl
  · exact N _ n1
  · exact N _ n2
  · exact N _ n3
/-- the loop that builds the words: the last one grows, or a new one is begun -/
theorem words_loop {ls lw : Addr} {vs : List Value} {ns : List Int} {nn : Nat} {m₀ : Str → Option Value} {y₀ : Str} {t₀ : Tok}
    (hh : A.handled = none) (hi : IntsAre vs ns) (hlen : ns.length ≤ 16) (F : Fr h₀ env.locals s.heap m₀) (N : News h₀ env.locals s.heap [(ls, W.listOf vs.toArray nn), (lw, W.listOf #[.str y₀ t₀] 0)]) (hy₀ : y₀.length = 0)
    (turn : ∀ (i : Nat) n t pre y ty c h tk (I : Addr) oI, i < 16 → pre.length ≤ i → TextsIn pre i → y.length ≤ i → ls < I → lw < I → Fr h₀ env.locals h (fun z => if z = x then some (.int n t) else m₀ z) →
      News h₀ env.locals h [(ls, W.listOf vs.toArray nn), (lw, W.listOf (pre ++ [Value.str y ty]).toArray c), (I, oI)] →
      wpAny (model prog w) A (execs body env) (WordsPost h₀ env.locals I oI (ls, W.listOf vs.toArray nn) lw (i + 1) x m₀ { s with heap := h, toks := tk } Q) E { s with heap := h, toks := tk })
    (done : ∀ pre y ty c (u : Str → Option Value) h tk, TextsIn (pre ++ [Value.str y ty]) 16 → Fr h₀ env.locals h (fun z => if z = x then u z else m₀ z) → News h₀ env.locals h [(ls, W.listOf vs.toArray nn), (lw, W.listOf (pre ++ [Value.str y ty]).toArray c)] → Q .next { s with heap := h, toks := tk }) :
    wpAny (model prog w) A (pyIter (.ref ls)) (fun it s₂ => LoopAtV prog w A h₀ env x body Q E it s₂) E s := by
  have hls : ls < s.heap.objs.size := Heap.lt_size (N _ List.mem_cons_self).1
  have hlw : lw < s.heap.objs.size := Heap.lt_size (N _ (List.mem_cons_of_mem _ List.mem_cons_self)).1
  have hlen' : vs.length ≤ 16 := by rw [hi.length]; exact hlen
  have off : ∀ pre y ty c, ∀ p ∈ [(ls, W.listOf vs.toArray nn), (lw, W.listOf (pre ++ [Value.str y ty]).toArray c)], p.1 ≠ s.heap.objs.size := by
    intro pre y ty c p hp
    simp only [List.mem_cons, List.not_mem_nil, or_false] at hp
    rcases hp with rfl | rfl
    · exact Nat.ne_of_lt hls
    · exact Nat.ne_of_lt hlw
  refine loop_grow (fun i m nx => (∃ pre y ty c, nx = [(ls, W.listOf vs.toArray nn), (lw, W.listOf (pre ++ [Value.str y ty]).toArray c)] ∧ pre.length ≤ i ∧ TextsIn pre i ∧ y.length ≤ i) ∧ ∀ z, z ≠ x → m z = m₀ z) hh List.mem_cons_self F N
    ⟨⟨[], y₀, t₀, 0, rfl, Nat.le_refl _, (fun _ h => nomatch h), by omega⟩, fun _ _ => rfl⟩ ?_ ?_
  · rintro i v m₁ nx h tk oI hv ⟨⟨pre, y, ty, c, rfl, hp, ht, hy⟩, hm⟩ hl₁ hoff F₁ N₁
    obtain ⟨n, t, rfl, hn⟩ := IntsAre.at hi i v hv
    have hi16 : i < 16 := by
      have : i < vs.length := by
        rcases Nat.lt_or_ge i vs.length with h | h
        · exact h
        · rw [List.getElem?_eq_none h] at hv; cases hv
      omega
    have eF : (fun z => if z = x then some (Value.int n t) else m₀ z) = fun z => if z = x then some (Value.int n t) else m₁ z := by
      funext z
      by_cases hz : z = x
      · rw [if_pos hz, if_pos hz]
      · rw [if_neg hz, if_neg hz]; exact (hm z hz).symm
    refine wpAny_mono (turn i n t pre y ty c h tk s.heap.objs.size oI hi16 hp ht hy hls hlw (by rw [eF]; exact F₁) N₁) (fun f s₂ p => ?_) fun _ _ e => e
    have fin : WordsEnd h₀ env.locals s.heap.objs.size oI (ls, W.listOf vs.toArray nn) lw (i + 1) x m₀ { s with heap := h, toks := tk } s₂ →
        GrowEnd h₀ env.locals ls (W.listOf vs.toArray nn) s.heap.objs.size oI (fun m nx => (∃ pre y ty c, nx = [(ls, W.listOf vs.toArray nn), (lw, W.listOf (pre ++ [Value.str y ty]).toArray c)] ∧ pre.length ≤ i + 1 ∧ TextsIn pre (i + 1) ∧ y.length ≤ i + 1) ∧ ∀ z, z ≠ x → m z = m₀ z) { s with heap := h, toks := tk } s₂ := by
      rintro ⟨h', tk', m', pre', y', ty', c', e, F', N', g1, g2, g3, g4⟩
      exact ⟨h', tk', m', _, e, F', N', List.mem_cons_self, off pre' y' ty' c', ⟨pre', y', ty', c', rfl, g1, g2, g3⟩, g4⟩
    cases f with
    | ret v => exact p
    | brk => exact p
    | next => exact fin p
    | cont => exact fin p
  · rintro m₁ nx h tk ⟨⟨pre, y, ty, c, rfl, hp, ht, hy⟩, hm⟩ hl' F₁ N₁
    refine done pre y ty c m₁ h tk ((ht.le hlen').snoc (Nat.le_trans hy hlen')) ?_ N₁
    have eF : (fun z => if z = x then m₁ z else m₀ z) = m₁ := by
      funext z
      by_cases hz : z = x
      · rw [if_pos hz]
      · rw [if_neg hz]; exact (hm z hz).symm
    rw [eF]; exact F₁
end
section
variable {prog : Program} {w : World} {A : Around} {E : Value → Shared → Prop} {s : Shared} {h₀ : Heap} {L D : Addr} {m : Str → Option Value} {news news' : List (Addr × Obj)} {n : Nat}
theorem last_get {value slice : PySem.Expr} {pre : List Value} {v : Value} {u : Tok} {Q : Value → Shared → Prop} (N : News h₀ L s.heap news) (hm : (D, W.listOf (pre ++ [v]).toArray n) ∈ news) (h : Q v s)
    (hs : subscripted slice false (.ref D) (.int (-1) u) = operate [.ref D, .int (-1) u] (getItem (.ref D) (.int (-1) u)) := by with_unfolding_all rfl) :
    wpAny (model prog w) A (subscriptTail value slice (.ref D) (.int (-1) u)) Q E s := by
  have hl : s.heap.IsList D (pre ++ [v]).toArray := ⟨_, (N _ hm).1, rfl, n, rfl⟩
  refine tail_any hl.typeIs slot_list_getitem.lookup (wpAny_getItem_list_neg hl (by decide) ?_ (by decide) ?_ h) hs
  · simp; omega
  · rw [show (-1 + ((pre ++ [v]).toArray.size : Int)).toNat = pre.length from by simp; omega]
    simp
theorem last_set {pre : List Value} {v v' : Value} {t : Tok} {Q : Unit → Shared → Prop} (F : Fr h₀ L s.heap m) (N : News h₀ L s.heap news) (U : Upd D (W.listOf (pre ++ [v]).toArray n) (W.listOf (pre ++ [v']).toArray n) news news')
    (h : ∀ h', Fr h₀ L h' m → News h₀ L h' news' → Q () { s with heap := h' }) : wpAny (model prog w) A (setItem (.ref D) (.int (-1) t) v') Q E s := by
  obtain ⟨p, q, rfl, rfl, a, b⟩ := U.split
  have z := N (D, W.listOf (pre ++ [v]).toArray n) (List.mem_append.mpr (.inr (.head _)))
  refine ki_setBack z.1 (by decide) (by simp; omega) (by decide) (h _ (F.change (Heap.SameBut.update ..) z.2.1 z.2.2) (ki_turn _ N a b ?_ ?_))
  · show (pre ++ [v]).toArray.setIfInBounds (-1 + ((pre ++ [v]).toArray.size : Int)).toNat v' = (pre ++ [v']).toArray
    rw [show (-1 + ((pre ++ [v]).toArray.size : Int)).toNat = pre.length from by simp; omega]
    apply Array.toList_inj.mp
    simp
  · simp
theorem tab_len (i : Nat) : ([Str.ofString "_", Str.ofString "_", Str.ofString "a", Str.ofString "-"].getD i Str.empty).length ≤ 1 := by
  match i with
  | 0 => decide
  | 1 => decide
  | 2 => decide
  | 3 => decide
  | n + 4 => exact Nat.zero_le _
theorem tab_room {y : Str} {i : Nat} (hy : y.length ≤ 16) : y.length + ([Str.ofString "_", Str.ofString "_", Str.ofString "a", Str.ofString "-"].getD i Str.empty).length ≤ sizeLine := by
  have := tab_len i; rw [sizeLine_eq]; omega
theorem tab_le {y : Str} {i : Nat} : (y ++ [Str.ofString "_", Str.ofString "_", Str.ofString "a", Str.ofString "-"].getD i Str.empty).length ≤ y.length + 1 := by
  have := tab_len i; rw [Str.length_append]; omega
theorem add_tab {y : Str} {ty t : Tok} {i : Nat} {Q : Value → Shared → Prop} (hy : y.length ≤ 16) (h : ∀ y' t' k, y'.length ≤ y.length + 1 → Q (.str y' t') { s with toks := k }) :
    wpAny (model prog w) A (binaryOp .Add (.str y ty) (.str ([Str.ofString "_", Str.ofString "_", Str.ofString "a", Str.ofString "-"].getD i Str.empty) t)) Q E s :=
  SB.add (fun t' k => h _ t' k (by have := tab_len i; rw [Str.length_append]; omega)) (by have := tab_len i; rw [sizeLine_eq]; omega)
end
end Mine
namespace Mine
theorem rev_cps (x : Str) (u : Tok) : (Txt.sliceBy x none none (-1, u)).cps.toList = x.cps.toList.reverse := by
  rw [step_rev_list]
  obtain ⟨⟨l⟩⟩ := x
  show (List.range l.length).map (fun k => (Array.mk l).getD (l.length - 1 - k) 0) = l.reverse
  apply List.ext_getElem
  · simp
  · intro i h1 h2
    simp at h1
    simp only [List.getElem_map, List.getElem_range, List.getElem_reverse]
    have : l.length - 1 - i < l.length := by omega
    simp [Array.getD, this]
section
variable {prog : Program} {w : World} {A : Around} {E : Value → Shared → Prop} {s : Shared} {value slice : Expr} {x : Str} {t : Tok} {h₀ : Heap} {L : Addr} {m : Str → Option Value} {news : List (Addr × Obj)} {Q : Value → Shared → Prop} {uk : Tok}
/-- a text from behind: a fresh letter with its signs -/
theorem rev_str (hF : Fr h₀ L s.heap m) (hN : News h₀ L s.heap news) (hsz : x.length ≤ sizeLine) (h : ∀ z h' t' c, z.length = x.length → z.cps.toList = x.cps.toList.reverse → Fr h₀ L h' m → News h₀ L h' news → Q (.str z t') { s with heap := h', toks := c })
    (hs : subscripted slice false (.str x t) (.ref s.heap.objs.size) = operate [.ref s.heap.objs.size, .str x t] (getItem (.str x t) (.ref s.heap.objs.size)) := by with_unfolding_all rfl)
    (ht : ∀ r, letTemporaryGo value (.str x t) r = pure () := by intro _; with_unfolding_all rfl) :
    wpAny (model prog w) A (subscriptTail value slice (.str x t) (.ref s.heap.objs.size)) Q E { s with heap := s.heap.push { cls := .type "slice", data := .fields #[.none, .none, .int (-1) uk] } } :=
  slice_strK_nn hF hN (by decide) (fun h' t' c F' N' => h _ h' t' c (step_rev_len x uk) (rev_cps x uk) F' N') hs ht hsz
end
end Mine
namespace Mine
def dunder (n : Str) : Bool := decide ((4 : Int) < (n.length : Int)) && (Txt.slice n none (some 2) == Txt.slice n (some (-2)) none) && (Txt.slice n (some (-2)) none == Str.ofString "__") && (Txt.item n 2 != Str.ofString "_") && (Txt.item n (-3) != Str.ofString "_")
def sunder (n : Str) : Bool := decide ((2 : Int) < (n.length : Int)) && (Txt.item n 0 == Txt.item n (-1)) && (Txt.item n (-1) == Str.ofString "_") && (Txt.item n 1 != Str.ofString "_") && (Txt.item n (-2) != Str.ofString "_")
abbrev at' (n : Str) (i : Nat) : Nat := n.cps.getD i 0
theorem get_at {n : Str} {i : Nat} (h : i < n.length) : n.cps[i]? = some (at' n i) := by
  have h' : i < n.cps.size := h
  simp [at', Array.getD, h']
theorem idx_up {n : Nat} {i : Int} (h0 : 0 ≤ i) (h : i < n) : seqIndex? i n = some i.toNat := by
  unfold seqIndex?
  have e : (if i < 0 then i + (n : Int) else i) = i := if_neg (by omega)
  simp only [e]
  rw [if_pos]
  simp only [Bool.and_eq_true, decide_eq_true_eq]
  exact ⟨h0, h⟩
theorem idx_down {n : Nat} {i : Int} (h0 : i < 0) (h : -(n : Int) ≤ i) : seqIndex? i n = some (n + i).toNat := by
  unfold seqIndex?
  have e : (if i < 0 then i + (n : Int) else i) = i + n := if_pos h0
  simp only [e]
  rw [if_pos, Int.add_comm]
  simp only [Bool.and_eq_true, decide_eq_true_eq]
  omega
theorem item_up {n : Str} {i : Int} (h0 : 0 ≤ i) (h : i < n.length) : Txt.item n i = ⟨#[at' n i.toNat]⟩ := by
  unfold Txt.item Txt.charAt
  rw [idx_up h0 h, Option.bind_some, get_at (by omega)]
  rfl
theorem item_down {n : Str} {i : Int} (h0 : i < 0) (h : -(n.length : Int) ≤ i) : Txt.item n i = ⟨#[at' n (n.length + i).toNat]⟩ := by
  unfold Txt.item Txt.charAt
  rw [idx_down h0 h, Option.bind_some, get_at (by omega)]
  rfl
theorem first_two {n : Str} (h : 2 < n.length) : Txt.slice n none (some 2) = ⟨#[at' n 0, at' n 1]⟩ := by
  have e : PySem.Builtin.Str.strSliceIndices none (some 2) 1 n.length = [0, 1] := by
    unfold PySem.Builtin.Str.strSliceIndices sliceRange
    simp only [show ((1 : Int) > 0) = True from by decide, if_true, show ((2 : Int) < 0) = False from by decide, if_false]
    rw [show max 0 (min 2 (n.length : Int)) = 2 from by omega]
    rfl
  unfold Txt.slice
  rw [e, if_neg (by simp; omega)]
  rw [List.filterMap_cons, get_at (by omega), List.filterMap_cons, get_at (by omega)]
  rfl
theorem last_two {n : Str} (h : 2 < n.length) : Txt.slice n (some (-2)) none = ⟨#[at' n (n.length - 2), at' n (n.length - 1)]⟩ := by
  have e : PySem.Builtin.Str.strSliceIndices (some (-2)) none 1 n.length = [n.length - 2, n.length - 1] := by
    unfold PySem.Builtin.Str.strSliceIndices sliceRange
    simp only [show ((1 : Int) > 0) = True from by decide, if_true, show ((-2 : Int) < 0) = True from by decide]
    rw [show max 0 (min (-2 + (n.length : Int)) n.length) = n.length - 2 from by omega]
    rw [if_pos (by omega), show ((n.length : Int) - (n.length - 2) + 1 - 1) / 1 = 2 from by omega]
    show [((n.length : Int) - 2 + 1 * ((0 : Nat) : Int)).toNat, ((n.length : Int) - 2 + 1 * ((1 : Nat) : Int)).toNat] = _
    congr 1
    · omega
    · congr 1; omega
  unfold Txt.slice
  rw [e, if_neg (by simp; omega)]
  rw [List.filterMap_cons, get_at (by omega), List.filterMap_cons, get_at (by omega)]
  rfl
theorem u1 : Str.ofString "_" = ⟨#[95]⟩ := by decide
theorem u2 : Str.ofString "__" = ⟨#[95, 95]⟩ := by decide
theorem one_beq (a b : Nat) : ((⟨#[a]⟩ : Str) == ⟨#[b]⟩) = decide (a = b) := by
  apply Bool.eq_iff_iff.mpr
  simp
theorem two_beq (a b c d : Nat) : ((⟨#[a, b]⟩ : Str) == ⟨#[c, d]⟩) = decide (a = c ∧ b = d) := by
  apply Bool.eq_iff_iff.mpr
  simp
theorem dunder_iff (n : Str) : dunder n = true ↔ 4 < n.length ∧ at' n 0 = 95 ∧ at' n 1 = 95 ∧ at' n (n.length - 2) = 95 ∧ at' n (n.length - 1) = 95 ∧ at' n 2 ≠ 95 ∧ at' n (n.length - 3) ≠ 95 := by
  unfold dunder
  by_cases h : 4 < n.length
  · rw [first_two (by omega), last_two (by omega), item_up (by decide) (by omega), item_down (by decide) (by omega), u1, u2]
    simp only [bne, one_beq, two_beq, Bool.and_eq_true, decide_eq_true_eq, Bool.not_eq_true', decide_eq_false_iff_not]
    rw [show ((n.length : Int) + -3).toNat = n.length - 3 from by omega, show (2 : Int).toNat = 2 from rfl]
    constructor
    · rintro ⟨⟨⟨⟨h1, h2, h3⟩, h4, h5⟩, h6⟩, h7⟩
      exact ⟨h, by omega, by omega, h4, h5, h6, h7⟩
    · rintro ⟨_, h1, h2, h3, h4, h5, h6⟩
      exact ⟨⟨⟨⟨by omega, by omega, by omega⟩, h3, h4⟩, h5⟩, h6⟩
  · rw [decide_eq_false (by omega)]
    simp [h]
theorem sunder_iff (n : Str) : sunder n = true ↔ 2 < n.length ∧ at' n 0 = 95 ∧ at' n (n.length - 1) = 95 ∧ at' n 1 ≠ 95 ∧ at' n (n.length - 2) ≠ 95 := by
  unfold sunder
  by_cases h : 2 < n.length
  · rw [item_up (i := 0) (by decide) (by omega), item_up (i := 1) (by decide) (by omega), item_down (i := -1) (by decide) (by omega), item_down (i := -2) (by decide) (by omega), u1]
    simp only [bne, one_beq, Bool.and_eq_true, decide_eq_true_eq, Bool.not_eq_true', decide_eq_false_iff_not]
    rw [show ((n.length : Int) + -1).toNat = n.length - 1 from by omega, show ((n.length : Int) + -2).toNat = n.length - 2 from by omega, show (0 : Int).toNat = 0 from rfl, show (1 : Int).toNat = 1 from rfl]
    constructor
    · rintro ⟨⟨⟨⟨h1, h2⟩, h3⟩, h4⟩, h5⟩
      exact ⟨h, by omega, h3, h4, h5⟩
    · rintro ⟨_, h1, h2, h3, h4⟩
      exact ⟨⟨⟨⟨by omega, by omega⟩, h2⟩, h3⟩, h4⟩
  · rw [decide_eq_false (by omega)]
    simp [h]
/-- so many underscores ahead and behind, and something else between -/
structure Ends (n : Str) (p q : Nat) : Prop where
  lo : ∀ i, i < p → at' n i = 95
  nlo : at' n p ≠ 95
  hi : ∀ i, i < q → at' n (n.length - 1 - i) = 95
  nhi : at' n (n.length - 1 - q) ≠ 95
  pl : p < n.length
  ql : q < n.length
theorem Ends.room {n : Str} {p q : Nat} (e : Ends n p q) : p + q < n.length := by
  by_cases h : p + q < n.length
  · exact h
  · have h1 := e.hi (n.length - 1 - p) (by have := e.pl; omega)
    rw [show n.length - 1 - (n.length - 1 - p) = p from by have := e.pl; omega] at h1
    exact absurd h1 e.nlo
theorem dunder_ends {n : Str} {p q : Nat} (e : Ends n p q) : dunder n = decide (p = 2 ∧ q = 2) := by
  apply Bool.eq_iff_iff.mpr
  rw [dunder_iff, decide_eq_true_eq]
  have hr := e.room
  constructor
  · rintro ⟨hl, h0, h1, h3, h4, h5, h6⟩
    constructor
    · rcases Nat.lt_trichotomy p 2 with h | h | h
      · have : p = 0 ∨ p = 1 := by omega
        rcases this with rfl | rfl
        · exact absurd h0 e.nlo
        · exact absurd h1 e.nlo
      · exact h
      · exact absurd (e.lo 2 h) h5
    · rcases Nat.lt_trichotomy q 2 with h | h | h
      · have : q = 0 ∨ q = 1 := by omega
        rcases this with rfl | rfl
        · exact absurd h4 e.nhi
        · exact absurd (by rw [show n.length - 1 - 1 = n.length - 2 from by omega]; exact h3) e.nhi
      · exact h
      · exact absurd (by have := e.hi 2 h; rwa [show n.length - 1 - 2 = n.length - 3 from by omega] at this) h6
  · rintro ⟨rfl, rfl⟩
    refine ⟨by omega, e.lo 0 (by decide), e.lo 1 (by decide), ?_, e.hi 0 (by decide), e.nlo, ?_⟩
    · have := e.hi 1 (by decide); rwa [show n.length - 1 - 1 = n.length - 2 from by omega] at this
    · have := e.nhi; rwa [show n.length - 1 - 2 = n.length - 3 from by omega] at this
theorem sunder_ends {n : Str} {p q : Nat} (e : Ends n p q) : sunder n = decide (p = 1 ∧ q = 1) := by
  apply Bool.eq_iff_iff.mpr
  rw [sunder_iff, decide_eq_true_eq]
  have hr := e.room
  constructor
  · rintro ⟨hl, h0, h3, h5, h6⟩
    constructor
    · rcases Nat.lt_trichotomy p 1 with h | h | h
      · obtain rfl : p = 0 := by omega
        exact absurd h0 e.nlo
      · exact h
      · exact absurd (e.lo 1 h) h5
    · rcases Nat.lt_trichotomy q 1 with h | h | h
      · obtain rfl : q = 0 := by omega
        exact absurd h3 e.nhi
      · exact h
      · exact absurd (by have := e.hi 1 h; rwa [show n.length - 1 - 1 = n.length - 2 from by omega] at this) h6
  · rintro ⟨rfl, rfl⟩
    refine ⟨by omega, e.lo 0 (by decide), e.hi 0 (by decide), e.nlo, ?_⟩
    have := e.nhi; rwa [show n.length - 1 - 1 = n.length - 2 from by omega] at this
theorem dunder_all {n : Str} (h : ∀ i, i < n.length → at' n i = 95) : dunder n = false := by
  cases hd : dunder n with
  | false => rfl
  | true =>
    obtain ⟨h0, _, _, _, _, h1, _⟩ := (dunder_iff n).mp hd
    exact absurd (h 2 (by omega)) h1
theorem sunder_all {n : Str} (h : ∀ i, i < n.length → at' n i = 95) : sunder n = false := by
  cases hd : sunder n with
  | false => rfl
  | true =>
    obtain ⟨h0, _, _, h1, _⟩ := (sunder_iff n).mp hd
    exact absurd (h 1 (by omega)) h1
theorem at_append (x y : Str) (i : Nat) : at' (x ++ y) i = if i < x.length then at' x i else at' y (i - x.length) := by
  obtain ⟨⟨l⟩⟩ := x
  obtain ⟨⟨r⟩⟩ := y
  show (Array.mk l ++ Array.mk r).getD i 0 = if i < l.length then (Array.mk l).getD i 0 else (Array.mk r).getD (i - l.length) 0
  simp only [Array.getD_eq_getD_getElem?, List.append_toArray, List.getElem?_toArray]
  by_cases h : i < l.length
  · rw [if_pos h, List.getElem?_append_left h]
  · rw [if_neg h, List.getElem?_append_right (by omega)]
theorem mul_is {a : Int} (h0 : 0 ≤ a) (h1 : a < 0 + ((4 : Nat) : Int)) : (Txt.mul (Str.ofString "_") a).length = a.toNat ∧ ∀ i, i < a.toNat → at' (Txt.mul (Str.ofString "_") a) i = 95 := by
  have h : a = 0 ∨ a = 1 ∨ a = 2 ∨ a = 3 := by omega
  have d : ∀ i, i < 3 → i = 0 ∨ i = 1 ∨ i = 2 := by omega
  rcases h with rfl | rfl | rfl | rfl
  · exact ⟨by decide, fun i hi => absurd hi (Nat.not_lt_zero _)⟩
  · refine ⟨by decide, fun i hi => ?_⟩
    have : i = 0 := by omega
    subst this; decide
  · refine ⟨by decide, fun i hi => ?_⟩
    have : i = 0 ∨ i = 1 := by omega
    rcases this with rfl | rfl <;> decide
  · refine ⟨by decide, fun i hi => ?_⟩
    have : i = 0 ∨ i = 1 ∨ i = 2 := by omega
    rcases this with rfl | rfl | rfl <;> decide
theorem mul_len {n : Int} (h0 : 0 ≤ n) (h1 : n < 0 + ((4 : Nat) : Int)) : (Txt.mul (Str.ofString "_") n).length ≤ 3 := by
  rw [(mul_is h0 h1).1]; omega
/-- the loop's own words about a place -/
abbrev under (y : Str) (j : Int) : Bool := if j < (y.length : Int) then if (Txt.item y j == Str.ofString "_") = true then true else false else false
theorem under_true {y : Str} {j : Int} (h0 : 0 ≤ j) (h : under y j = true) : j < y.length ∧ at' y j.toNat = 95 := by
  unfold under at h
  by_cases hj : j < (y.length : Int)
  · rw [if_pos hj, item_up h0 hj, u1, one_beq] at h
    refine ⟨hj, ?_⟩
    by_cases e : at' y j.toNat = 95
    · exact e
    · rw [if_neg (by simpa using e)] at h; cases h
  · rw [if_neg hj] at h; cases h
theorem under_false {y : Str} {j : Int} (h0 : 0 ≤ j) (h : under y j = false) : (y.length : Int) ≤ j ∨ at' y j.toNat ≠ 95 := by
  unfold under at h
  by_cases hj : j < (y.length : Int)
  · rw [if_pos hj, item_up h0 hj, u1, one_beq] at h
    refine Or.inr fun e => ?_
    rw [if_pos (by simpa using e)] at h; cases h
  · exact Or.inl (by omega)
theorem rev_at {y z : Str} (zl : z.length = y.length) (zr : z.cps.toList = y.cps.toList.reverse) {i : Nat} (h : i < y.length) : at' z i = at' y (y.length - 1 - i) := by
  obtain ⟨⟨l⟩⟩ := y
  obtain ⟨⟨r⟩⟩ := z
  have zr' : r = l.reverse := zr
  subst zr'
  have h' : i < l.length := h
  show (Array.mk l.reverse).getD i 0 = (Array.mk l).getD (l.length - 1 - i) 0
  simp only [Array.getD_eq_getD_getElem?, List.getElem?_toArray]
  rw [List.getElem?_reverse h']
theorem len_append (x y : Str) : (x ++ y).length = x.length + y.length := Str.length_append x y
theorem end_all {a b k : Int} {y : Str} (h : (dunder (Txt.mul (Str.ofString "_") a ++ y ++ Txt.mul (Str.ofString "_") b) == decide (([] : List Int) = [2, 2]) && sunder (Txt.mul (Str.ofString "_") a ++ y ++ Txt.mul (Str.ofString "_") b) == decide (([] : List Int) = [1, 1])) = false)
    (hk : k = (y.length : Int)) (hrun : ∀ j, 0 ≤ j → j < k → under y j = true) (ha : 0 ≤ a) (ha' : a < 0 + ((4 : Nat) : Int)) (hb : 0 ≤ b) (hb' : b < 0 + ((4 : Nat) : Int)) : False := by
  obtain ⟨la, pa⟩ := mul_is ha ha'
  obtain ⟨lb, pb⟩ := mul_is hb hb'
  have all : ∀ i, i < (Txt.mul (Str.ofString "_") a ++ y ++ Txt.mul (Str.ofString "_") b).length → at' (Txt.mul (Str.ofString "_") a ++ y ++ Txt.mul (Str.ofString "_") b) i = 95 := by
    intro i hi
    rw [len_append, len_append, la, lb] at hi
    rw [at_append, len_append, la, at_append, la]
    split
    · split
      · exact pa i (by omega)
      · have := (under_true (by omega) (hrun ((i - a.toNat : Nat) : Int) (by omega) (by omega))).2
        simpa using this
    · exact pb _ (by omega)
  rw [dunder_all all, sunder_all all] at h
  revert h; decide
theorem end_some {a b k k' : Int} {y z : Str} (h : (dunder (Txt.mul (Str.ofString "_") a ++ y ++ Txt.mul (Str.ofString "_") b) == decide ([a + k, b + k'] = [2, 2]) && sunder (Txt.mul (Str.ofString "_") a ++ y ++ Txt.mul (Str.ofString "_") b) == decide ([a + k, b + k'] = [1, 1])) = false)
    (hne : k ≠ (y.length : Int)) (zr : z.cps.toList = y.cps.toList.reverse) (zl : z.length = y.length) (hrun : ∀ j, 0 ≤ j → j < k → under y j = true) (hstop : under y k = false) (hk0 : 0 ≤ k) (hrun' : ∀ j, 0 ≤ j → j < k' → under z j = true) (hstop' : under z k' = false) (hk0' : 0 ≤ k') (hmax : k ≤ max 0 (y.length : Int))
    (ha : 0 ≤ a) (ha' : a < 0 + ((4 : Nat) : Int)) (hb : 0 ≤ b) (hb' : b < 0 + ((4 : Nat) : Int)) : False := by
  obtain ⟨la, pa⟩ := mul_is ha ha'
  obtain ⟨lb, pb⟩ := mul_is hb hb'
  have kl : k < y.length := by omega
  have nk : at' y k.toNat ≠ 95 := (under_false hk0 hstop).resolve_left (by omega)
  have kl' : k' < y.length := by
    by_cases hh : k' < y.length
    · exact hh
    · have := (under_true (by omega) (hrun' ((y.length - 1 - k.toNat : Nat) : Int) (by omega) (by omega))).2
      rw [show (((y.length - 1 - k.toNat : Nat) : Int)).toNat = y.length - 1 - k.toNat from by omega, rev_at zl zr (by omega), show y.length - 1 - (y.length - 1 - k.toNat) = k.toNat from by omega] at this
      exact absurd this nk
  have nk' : at' y (y.length - 1 - k'.toNat) ≠ 95 := by
    have := (under_false hk0' hstop').resolve_left (by omega)
    rwa [rev_at zl zr (by omega)] at this
  have L : (Txt.mul (Str.ofString "_") a ++ y ++ Txt.mul (Str.ofString "_") b).length = a.toNat + y.length + b.toNat := by rw [len_append, len_append, la, lb]
  have T : ∀ i, at' (Txt.mul (Str.ofString "_") a ++ y ++ Txt.mul (Str.ofString "_") b) i = if i < a.toNat + y.length then (if i < a.toNat then at' (Txt.mul (Str.ofString "_") a) i else at' y (i - a.toNat)) else at' (Txt.mul (Str.ofString "_") b) (i - (a.toNat + y.length)) := by
    intro i
    rw [at_append, len_append, la, at_append, la]
  have en : Ends (Txt.mul (Str.ofString "_") a ++ y ++ Txt.mul (Str.ofString "_") b) (a.toNat + k.toNat) (b.toNat + k'.toNat) := by
    refine ⟨fun i hi => ?_, ?_, fun i hi => ?_, ?_, by rw [L]; omega, by rw [L]; omega⟩
    · rw [T, if_pos (by omega)]
      split
      · exact pa i (by omega)
      · have := (under_true (by omega) (hrun ((i - a.toNat : Nat) : Int) (by omega) (by omega))).2
        simpa using this
    · rw [T, if_pos (by omega), if_neg (by omega), show a.toNat + k.toNat - a.toNat = k.toNat from by omega]
      exact nk
    · rw [T, L]
      split
      · rw [if_neg (by omega)]
        have := (under_true (by omega) (hrun' ((i - b.toNat : Nat) : Int) (by omega) (by omega))).2
        rw [show (((i - b.toNat : Nat) : Int)).toNat = i - b.toNat from by omega, rev_at zl zr (by omega)] at this
        rw [show a.toNat + y.length + b.toNat - 1 - i - a.toNat = y.length - 1 - (i - b.toNat) from by omega]
        exact this
      · exact pb _ (by omega)
    · rw [T, L, if_pos (by omega), if_neg (by omega), show a.toNat + y.length + b.toNat - 1 - (b.toNat + k'.toNat) - a.toNat = y.length - 1 - k'.toNat from by omega]
      exact nk'
  have e2 : ∀ c : Int, 0 ≤ c → decide ([a + k, b + k'] = [c, c]) = decide (a.toNat + k.toNat = c.toNat ∧ b.toNat + k'.toNat = c.toNat) := by
    intro c hc
    apply Bool.eq_iff_iff.mpr
    simp only [decide_eq_true_eq, List.cons.injEq, and_true]
    omega
  rw [dunder_ends en, sunder_ends en, e2 2 (by decide), e2 1 (by decide)] at h
  simp at h
end Mine
local macro_rules | `(tactic| walk_at "exec For") => `(tactic| (k_here; with_unfolding_all ((rename Fr _ _ _ _ => F'); (refine For_invVF F' (by rfl) (by rfl) ?_))))
local macro_rules | `(tactic| walk_at "pyIter ref") => `(tactic| (k_of "word" => (k_here; (rename Fr _ _ _ _ => lF'); (rename News _ _ _ _ => lN'); (with_unfolding_all (refine' Mine.search_texts [Str.ofString "ahead", Str.ofString "behind", Str.ofString "k", Str.ofString "m", Str.ofString "name", Str.ofString "answers", Str.ofString "counts"] (by rfl) (by k_mem) (by assumption) lF' lN' ?qtw ?qdw)); (case' qtw => ((intro kY kT kU kH kTk kI kO kLen kLt kFr kNews); (clear lF' lN'); (k_lt kLt); (simp only [List.nil_append, List.cons_append] at kNews); (try k_fold))); (case' qdw => ((intro kU kH kTk kFr kNews); (clear lF' lN'); (try k_fold))))))
local macro_rules | `(tactic| walk_at "pyIter ref") => `(tactic| (k_of "k" => (k_here; (rename Fr _ _ _ _ => lF'); (rename News _ _ _ _ => lN'); (with_unfolding_all (refine' Mine.search_range [Str.ofString "m", Str.ofString "name", Str.ofString "answers", Str.ofString "counts"] (by rfl) (by assumption) (by first | decide | rfl) (by first | rfl | decide) lF' lN' ?qtk ?qdk)); (case' qtk => ((intro kK kT1 kU1 kH1 kTk1 kI1 kO1 kLo kHi kLt kFr1 kNews1); (clear lF' lN'); (k_lt kLt); (have kMul1 := Mine.mul_len kLo kHi); (simp only [List.nil_append, List.cons_append] at kNews1); (try k_fold))); (case' qdk => ((intro kU kH kTk kFr kNews); (clear lF' lN'); (try k_fold))))))
local macro_rules | `(tactic| walk_at "pyIter ref") => `(tactic| (k_of "m" => (k_here; (rename Fr _ _ _ _ => lF'); (rename News _ _ _ _ => lN'); (with_unfolding_all (refine' Mine.search_range [Str.ofString "name", Str.ofString "answers", Str.ofString "counts"] (by rfl) (by assumption) (by first | decide | rfl) (by first | rfl | decide) lF' lN' ?qtm ?qdm)); (case' qtm => ((intro kM kT2 kU2 kH2 kTk2 kI2 kO2 kLo2 kHi2 kLt kFr2 kNews2); (clear lF' lN'); (k_lt kLt); (have kMul2 := Mine.mul_len kLo2 kHi2); (simp only [List.nil_append, List.cons_append] at kNews2); (try k_fold))); (case' qdm => ((intro kU kH kTk kFr kNews); (clear lF' lN'); (try k_fold))))))
local macro_rules | `(tactic| walk_at "exec If") => `(tactic| ((with_reducible show wpAny _ _ (exec (Stmt.If _ [Stmt.Return _ _] [] _) _) _ _ _); refine wpAny_If ?_))
local macro_rules | `(tactic| walk_at "eval ListComp") => `(tactic| (k_here; (with_reducible show wpAny _ _ (eval (Expr.ListComp _ [⟨_, _, [_], _⟩] _ _) _) _ _ _); (with_unfolding_all (refine' Mine.filt_none ?jh ?jF ?jN ?jm ?js ?jb ?jc ?je ?jk ?jn ?jx ?ji ?jt ?jd; (case ji => (intro jR jhR; first | exact ld (by k_asm) (by exact rfl) jhR | exact nameX_L (by k_asm) (by exact rfl) jhR)); (case jh => rfl); (case jF => k_asm); (case jN => k_asm); (case jm => k_mem); (case js => exact Nat.le_of_ble_eq_true rfl); (case jb => rfl); (case jc => rfl); (case je => decide); (case jk => rfl); (case jn => decide); (case jx => rfl))); (case' jt => ((intro jB jI joI jC joC jD jm2 jh jtk jE jNs jmx F' N' jOff jNe); (try simp only [LCg.Off3, and_true] at jOff); (try k_fold))); (case' jd => ((intro jD jh jtk F' N' jOff); (try simp only [LCg.Off1, and_true] at jOff); (try k_fold)))))
local macro_rules | `(tactic| walk_at "FiltEnd") => `(tactic| (with_unfolding_all refine Mine.FiltEnd.intro (by k_asm) (by k_asm)))
local macro_rules | `(tactic| walk_at "SameEnd") => `(tactic| (with_unfolding_all ((rename News _ _ _ _ => nE'); (refine Mine.SameEnd.intro (by assumption) nE' (by lcg_sub) (by (intro z hz1 hz2; first | (kst_same; done) | (simp_all; done)))))))
local macro_rules | `(tactic| walk_at "SamePost") => `(tactic| (first | (with_reducible show Mine.SamePost _ _ _ _ _ _ _ _ _ _ Flow.next _) | (with_reducible show Mine.SamePost _ _ _ _ _ _ _ _ _ _ Flow.cont _)); with_unfolding_all (show Mine.SameEnd _ _ _ _ _ _ _ _ _ _))
local macro_rules | `(tactic| walk_at "subscriptTail Name Slice str ref") => `(tactic| ((with_reducible show wpAny _ _ (subscriptTail _ (Expr.Slice none none (some _) _) _ _) _ _ _); (with_reducible rename Fr _ _ _ _ => F'); (with_reducible rename News _ _ _ _ => N'); (refine Mine.rev_str (s := ⟨_, _, _, _, _⟩) F' N' (by rw [sizeLine_eq]; omega) ?_); intro jZ _ _ _ jzl jzr jF9 jN9))
local macro_rules | `(tactic| walk_at "SamePost cons cons ret") => `(tactic| (first | exact (Mine.end_all (by assumption) (by assumption) (by assumption) (by assumption) (by assumption) (by assumption) (by assumption)).elim | exact (Mine.end_some (by assumption) (by assumption) (by assumption) (by assumption) (by assumption) (by assumption) (by assumption) (by assumption) (by assumption) (by assumption) (by assumption) (by assumption) (by assumption) (by assumption) (by assumption)).elim))
local macro_rules | `(tactic| walk_at "pyIter ref") => `(tactic| (k_of "x" => (k_here; (rename Fr _ _ _ _ => lF'); (rename News _ _ _ _ => lN'); (with_unfolding_all (refine' Mine.words_loop (by rfl) (by assumption) (by omega) lF' lN' (by decide) ?qtx ?qdx)); (case' qtx => ((intro xI xN xT xPre xY xTy xC xH xTk xA xO xi xpre xtx xlen xlt1 xlt2 xF xNews); (clear lF' lN'); (k_lt2 xlt1); (k_lt2 xlt2); (try k_fold))); (case' qdx => ((intro xPre xY xTy xC xU xH xTk xtx xF xNews); (clear lF' lN'); (try k_fold))))))
local macro_rules | `(tactic| walk_at "subscriptTail Name UnaryOp ref int") => `(tactic| (k_here; (with_unfolding_all (refine Mine.last_get (by k_asm) (by k_mem) ?_))))
local macro_rules | `(tactic| walk_at "call builtin:list.append") => `(tactic| (k_here; (with_unfolding_all (refine' append_K ?aF ?aN ?aU ?_ ?aZ; (case aF => k_asm); (case aN => k_asm); (case aU => k_upd); (case aZ => (simp only [List.size_toArray, List.length_append, List.length_cons, List.length_nil]; rw [sizeLine_eq]; omega)))); intro ah' aF' aN'))
local macro_rules | `(tactic| walk_at "setItem ref int") => `(tactic| (k_here; (with_unfolding_all (refine' Mine.last_set ?sF ?sN ?sU ?_; (case sF => k_asm); (case sN => k_asm); (case sU => k_upd))); intro sh' sF' sN'))
local macro_rules | `(tactic| walk_at "WordsPost") => `(tactic| (first | (with_reducible show Mine.WordsPost _ _ _ _ _ _ _ _ _ _ _ Flow.next _) | (with_reducible show Mine.WordsPost _ _ _ _ _ _ _ _ _ _ _ Flow.cont _)); with_unfolding_all (show Mine.WordsEnd _ _ _ _ _ _ _ _ _ _ _))
local macro_rules | `(tactic| walk_at "WordsEnd") => `(tactic| (with_unfolding_all ((rename News _ _ _ _ => nE'); first | (refine Mine.WordsEnd.app (by assumption) nE' (by k_mem) (by k_mem) (by k_mem) (by assumption) (by assumption) (by assumption) (by decide) (by (intro z hz; first | (simp_all; done)))) | (refine Mine.WordsEnd.put (by assumption) nE' (by k_mem) (by k_mem) (by k_mem) (by assumption) (by assumption) (by assumption) (by exact Mine.tab_le) (by (intro z hz; first | (simp_all; done)))))))
set_option maxRecDepth 100000 in
set_option maxHeartbeats 16000000 in
theorem PySem.Challenge.cw_dm0103_12_holds : PySem.Challenge.rw_dm0103_12.Holds := by
  k_with "table" => skip
  k_with "eval Call Name cons nil" => refine Call_ ?_
  k_with "call ref" => k_call_by "_is_dunder" Mine.dunder (fun n => n.length ≤ 1000)
  k_with "call ref" => k_call_by "_is_sunder" Mine.sunder (fun n => n.length ≤ 1000)
  k_with "binaryOp Add str str" => (k_here; (refine SBL.add (hsz := ?jh7) ?_); (case jh7 => first | ((try simp only [Str.length_append]); rw [sizeLine_eq]; omega) | exact Mine.tab_room (by omega)); intro _ _ _)
  k_with "ite" => ((first | (with_reducible show (if Txt.startswith _ _ = true then _ else _)) | (with_reducible show (if (Txt.item _ _ != _) = true then _ else _)) | (with_reducible show (if (Txt.slice _ _ _ == _) = true then _ else _))); ((with_reducible refine split_bool ?_ ?_) <;> intro _))
  k_with "tree" => ((simp only [Mine.dunder, Mine.sunder]); (simp only [*]); (simp; done))
  k_with "call builtin:len" => ((with_reducible show wpAny _ _ (call (Value.builtin "len") [Value.str _ _]) _ _ _); (refine SBL.len (by omega) ?_))
  open_k
