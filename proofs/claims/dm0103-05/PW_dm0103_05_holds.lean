import PyProof.Rows.All
import Wide.All
import OpenK.AllK
import Wide.FinOn
import PySem.Challenge.RW_dm0103_05
open PySem PySem.W PyProof.Rows
set_option Elab.async false
namespace Mine
section
variable {prog : Program} {w : World} {A : Around} {E : Value → Shared → Prop} {s : Shared} {env : Env} {h₀ : Heap} {x : Str} {body : List Stmt} {Q : Flow → Shared → Prop}
/-- a turn's end: the ledger nx (it may have grown), the list that is walked in it, the iterator (I, oI) beside it -/
def GrowEnd (h₀ : Heap) (L : Addr) (l : Addr) (o : Obj) (I : Addr) (oI : Obj) (J : (Str → Option Value) → List (Addr × Obj) → Prop) (s₁ s₂ : Shared) : Prop :=
  ∃ h' tk m' nx, s₂ = { s₁ with heap := h', toks := tk } ∧ Fr h₀ L h' m' ∧ News h₀ L h' ((I, oI) :: nx) ∧ (l, o) ∈ nx ∧ (∀ p ∈ nx, p.1 ≠ I) ∧ J m' nx
def GrowPost (h₀ : Heap) (L : Addr) (l : Addr) (o : Obj) (I : Addr) (oI : Obj) (J : (Str → Option Value) → List (Addr × Obj) → Prop) (s₁ : Shared) (Q : Flow → Shared → Prop) (f : Flow) (s₂ : Shared) : Prop :=
  match f with
  | .ret v => Q (.ret v) s₂
  | .brk => Q .next s₂
  | _ => GrowEnd h₀ L l o I oI J s₁ s₂
/-- a loop over a list of the ledger's, its invariant over a ledger that may grow -/
theorem loop_grow {l : Addr} {vs : List Value} {nn : Nat} {m₀ : Str → Option Value} {news : List (Addr × Obj)} (J : Nat → (Str → Option Value) → List (Addr × Obj) → Prop)
    (hh : A.handled = none) (hl : (l, W.listOf vs.toArray nn) ∈ news) (F : Fr h₀ env.locals s.heap m₀) (N : News h₀ env.locals s.heap news) (hj : J 0 m₀ news)
    (turn : ∀ (i : Nat) v m₁ nx h tk oI, vs[i]? = some v → J i m₁ nx → (l, W.listOf vs.toArray nn) ∈ nx → (∀ p ∈ nx, p.1 ≠ s.heap.objs.size) → Fr h₀ env.locals h (fun y => if y = x then some v else m₁ y) → News h₀ env.locals h (nx ++ [(s.heap.objs.size, oI)]) →
      wpAny (model prog w) A (execs body env) (GrowPost h₀ env.locals l (W.listOf vs.toArray nn) s.heap.objs.size oI (J (i + 1)) { s with heap := h, toks := tk } Q) E { s with heap := h, toks := tk })
    (done : ∀ m₁ nx h tk, J vs.length m₁ nx → (l, W.listOf vs.toArray nn) ∈ nx → Fr h₀ env.locals h m₁ → News h₀ env.locals h nx → Q .next { s with heap := h, toks := tk }) :
    wpAny (model prog w) A (pyIter (.ref l)) (fun it s₂ => LoopAtV prog w A h₀ env x body Q E it s₂) E s := by
  have hol := (N _ hl).1
  have hls : s.heap.IsList l vs.toArray := ⟨_, hol, rfl, nn, rfl⟩
  have hne : l ≠ s.heap.objs.size := Nat.ne_of_lt (Heap.lt_size hol)
  have hlt : ∀ p ∈ news, p.1 ≠ s.heap.objs.size := fun p hp => Nat.ne_of_lt (Heap.lt_size (N p hp).1)
  refine wpAny_pyIter_list hls ?_
  have WK := Walks.list (prog := prog) (w := w) hh s.heap.objs.size l hne vs.toArray
  refine ⟨_, _, _, vs.toArray.size, _, _, m₀, news, (fun i m nx => (l, W.listOf vs.toArray nn) ∈ nx ∧ J i m nx), rfl, WK, ?_, ?_, ?_, ⟨⟨_, Heap.get?_push_size _ rfl, rfl, rfl⟩, hls.at fun o e => Heap.get?_push_of_some _ e⟩, F.push _, (fun p hp => ⟨Heap.get?_push_of_some _ (N p hp).1, (N p hp).2⟩), ⟨hl, hj⟩, ?_, ?_⟩
  · intro hm
    rcases List.mem_cons.mp hm with e | hm
    · exact absurd F.ns.lt (e ▸ Nat.lt_irrefl _)
    · exact (N _ hl).2.1 ((List.mem_singleton.mp hm).symm)
  · intro b hb
    rw [List.mem_singleton.mp hb]
    exact next_is_new F
  · intro p hp hI
    exact hlt p hp (List.mem_singleton.mp hI)
  · rintro i v m₁ nx s₁ own ⟨h, tk, rfl⟩ hin hP ⟨hl₁, hJ⟩ hoff hown hget hfp hst F₁ N₁
    obtain ⟨oI, hoI, _⟩ := hst.1
    have hI : (s.heap.objs.size, oI) ∈ own := hfp _ (List.mem_cons_self) (next_is_new F) oI hoI
    have hoff' : ∀ p ∈ nx, p.1 ≠ s.heap.objs.size := fun p hp e => hoff p hp (by rw [e]; exact List.mem_cons_self)
    have N₂ : News h₀ env.locals h (nx ++ [(s.heap.objs.size, oI)]) := fun p hp => N₁ p (by
      rcases List.mem_append.mp hp with hp | hp
      · exact List.mem_append.mpr (.inr hp)
      · rw [List.mem_singleton.mp hp]; exact List.mem_append.mpr (.inl hI))
    have hlo : h.get? l = some (W.listOf vs.toArray nn) := (N₁ _ (List.mem_append.mpr (.inr hl₁))).1
    have hP' : vs[i]? = some v := by simpa using hP
    refine wpAny_mono (turn i v m₁ nx h tk oI hP' hJ hl₁ hoff' F₁ N₂) (fun f s₂ p => ?_) fun _ _ e => e
    have fin : GrowEnd h₀ env.locals l (W.listOf vs.toArray nn) s.heap.objs.size oI (J (i + 1)) { s with heap := h, toks := tk } s₂ →
        LoopStepU h₀ env.locals [s.heap.objs.size] own (fun m nx => (l, W.listOf vs.toArray nn) ∈ nx ∧ J (i + 1) m nx) { s with heap := h, toks := tk } .next s₂ := by
      rintro ⟨h', tk', m', nx', e, F', N', hl', ho', hJ'⟩
      refine ⟨rfl, h', tk', m', nx', e, F', fun p hp => ?_, fun p hp hq => ho' p hp (List.mem_singleton.mp hq), hl', hJ'⟩
      rcases List.mem_append.mp hp with hp | hp
      · have hg : h.get? p.1 = some p.2 := hget p hp
        rcases List.mem_cons.mp (hown p hp) with e1 | e1
        · have : p = (s.heap.objs.size, oI) := Prod.ext e1 (by rw [e1] at hg; exact Option.some.inj (hg.symm.trans hoI))
          rw [this]
          exact N' _ List.mem_cons_self
        · have e2 := List.mem_singleton.mp e1
          have : p = (l, W.listOf vs.toArray nn) := Prod.ext e2 (by rw [e2] at hg; exact Option.some.inj (hg.symm.trans hlo))
          rw [this]
          exact N' _ (List.mem_cons_of_mem _ hl')
      · exact N' p (List.mem_cons_of_mem _ hp)
    cases f with
    | ret v => exact .ret p
    | brk => exact .brk p
    | next => exact .next (fin p)
    | cont => exact .cont (fin p)
  · rintro h' tk m' nx F' N' _ ⟨hl', hJ⟩
    exact done m' nx h' tk (by simpa using hJ) hl' F' N'
end
end Mine
namespace Mine
section
open LCg
variable {prog : Program} {w : World} {A : Around} {s : Shared} {h₀ : Heap} {L : Addr} {m : Str → Option Value} {env : Env}
/-- a comprehension of any length whose ledger may grow: T says what holds of the items so far -/
theorem rest_grow {elt : Expr} {x : Str} {scope : Scope} {cl : List (Str × Addr)} {S : List (Addr × Obj) → Prop} {P : Nat → Value → Prop} {Fin : List Value → List (Addr × Obj) → Prop} {n : Nat} (T : Nat → List Value → List (Addr × Obj) → Prop)
    (turn : ∀ i v ys nx I oI C oC D m₂ h tk (E' : Value → Shared → Prop), i < n → P i v → T i ys nx → NsObj oC m₂ → m₂ x = some v → Fr h₀ L h m → News h₀ L h ((I, oI) :: (C, oC) :: (D, lst ys) :: nx) → Off3 I C D nx → ((@Ne Nat I C) ∧ (@Ne Nat I D) ∧ (@Ne Nat C D)) →
      wpAny (model prog w) A (eval elt (compEnvC scope cl C env)) (CompEnd h₀ L m { s with heap := h, toks := tk } I oI C oC D (lst ys) S (fun y nx' => T (i + 1) (ys ++ [y]) nx')) E' { s with heap := h, toks := tk })
    (fin : ∀ ys nx, T n ys nx → Fin ys nx) : ∀ k i ys nx, i + k = n → T i ys nx → CompRest prog w A h₀ L m env elt x scope cl s S P Fin k i ys nx := by
  intro k
  induction k with
  | zero => exact fun i ys nx hi h => fin ys nx (by rw [Nat.add_zero] at hi; exact hi ▸ h)
  | succ k ih =>
    intro i ys nx hi hT
    refine CompRest.succ ?_
    intro v I oI C oC D m₂ h tk E' hv hC hx F N off ne
    refine wpAny_mono (turn i v ys nx I oI C oC D m₂ h tk E' (by omega) hv hT hC hx F N off ne) (fun y s' hq => ?_) fun _ _ e => e
    obtain ⟨h', tk', news', e, F', N', off', hS', hT'⟩ := hq
    exact ⟨h', tk', news', e, F', N', off', hS', ih (i + 1) (ys ++ [y]) news' (by omega) hT'⟩
end
theorem allLt_ne {d : Nat} {l : List (Addr × Obj)} (h : AllLt d l) : ∀ p ∈ l, p.1 ≠ d := by
  induction l with
  | nil => exact fun _ hp => nomatch hp
  | cons q r ih =>
    intro p hp
    rcases List.mem_cons.mp hp with e | hp
    · rw [e]; exact Nat.ne_of_lt h.1
    · exact ih h.2 p hp
section
open LCg
variable {prog : Program} {w : World} {A : Around} {s : Shared} {h₀ : Heap} {L : Addr} {m : Str → Option Value} {env : Env}
theorem rest_ints {elt : Expr} {x : Str} {scope : Scope} {cl : List (Str × Addr)} {S : List (Addr × Obj) → Prop} {Fin : List Value → List (Addr × Obj) → Prop} {vs : List Value} {ns : List Int} (hi : IntsAre vs ns) (T : Nat → List Value → List (Addr × Obj) → Prop) {nx₀ : List (Addr × Obj)}
    (start : T 0 [] nx₀)
    (turn : ∀ i n t ys nx I oI C oC D m₂ h tk (E' : Value → Shared → Prop), ns[i]? = some n → T i ys nx → NsObj oC m₂ → m₂ x = some (.int n t) → Fr h₀ L h m → News h₀ L h ((I, oI) :: (C, oC) :: (D, lst ys) :: nx) → Off3 I C D nx → ((@Ne Nat I C) ∧ (@Ne Nat I D) ∧ (@Ne Nat C D)) →
      wpAny (model prog w) A (eval elt (compEnvC scope cl C env)) (CompEnd h₀ L m { s with heap := h, toks := tk } I oI C oC D (lst ys) S (fun y nx' => T (i + 1) (ys ++ [y]) nx')) E' { s with heap := h, toks := tk })
    (fin : ∀ ys nx, T ns.length ys nx → Fin ys nx) : CompRest prog w A h₀ L m env elt x scope cl s S (fun i v => vs.toArray[i]? = some v) Fin vs.toArray.size 0 [] nx₀ := by
  refine rest_grow T ?_ (fun ys nx h => fin ys nx (by rw [← hi.length]; simpa using h)) _ _ _ _ (Nat.zero_add _) start
  intro i v ys nx I oI C oC D m₂ h tk E' hlt hP hT hC hx F N off ne
  obtain ⟨n, t, rfl, hn⟩ := IntsAre.at hi i v (by simpa using hP)
  exact turn i n t ys nx I oI C oC D m₂ h tk E' hn hT hC hx F N off ne
end
end Mine
namespace Mine
theorem strOk_ofString (x : String) : PyData.strOk (Str.ofString x) = true := by
  rw [Str.ofString_eq_toList]
  unfold PyData.strOk
  rw [Array.all_eq_true']
  intro c hc
  simp only [List.mem_toArray, List.mem_map] at hc
  obtain ⟨ch, _, rfl⟩ := hc
  have := ch.valid
  simp only [UInt32.isValidChar, Nat.isValidChar] at this
  have e : ch.toNat = ch.val.toNat := rfl
  rw [decide_eq_true_eq, e]
  omega
theorem strOk_app (x y : Str) (hx : PyData.strOk x = true) (hy : PyData.strOk y = true) : PyData.strOk (x ++ y) = true := by
  unfold PyData.strOk at *
  rw [PySem.Str.cps_append, Array.all_append, hx, hy]
  rfl
section
variable {prog : Program} {w : World} {A : Around} {E : Value → Shared → Prop} {s : Shared} {a b : Value} {d : PyData} {as bs : List Addr} {Q : Value → Shared → Prop}
theorem eq_self (ra : Reads s.heap a d as) (rb : Reads s.heap b d bs) (hs : SeqAt.shaped d = true) (hm : SeqAt.noMix d d = true) (hu : A.units + 64 < cLine) (h : Q (.bool true) s) : wpAny (model prog w) A (compareOp .Eq a b) Q E s :=
  eq_dataH_same ra rb hs hs hu hm (by rw [Spec.same_self]; exact h)
theorem ne_self (ra : Reads s.heap a d as) (rb : Reads s.heap b d bs) (hs : SeqAt.shaped d = true) (hm : SeqAt.noMix d d = true) (hu : A.units + 64 < cLine) (h : Q (.bool false) s) : wpAny (model prog w) A (compareOp .NotEq a b) Q E s :=
  ne_dataH_same ra rb hs hs hu hm (by rw [Spec.same_self]; exact h)
end
theorem shaped_flat {ds : List PyData} (h : ∀ d ∈ ds, PyData.canLay0 d = true ∧ d.depth = 0) : SeqAt.shaped (.list ds) = true := by
  have h1 : PyData.canLayAll0 ds = true := by
    induction ds with
    | nil => rfl
    | cons d r ih => simp [PyData.canLayAll0, (h d List.mem_cons_self).1, ih fun e he => h e (List.mem_cons_of_mem _ he)]
  have h2 : PyData.depthAll ds = 0 := by
    induction ds with
    | nil => rfl
    | cons d r ih => simp [PyData.depthAll, (h d List.mem_cons_self).2, ih (fun e he => h e (List.mem_cons_of_mem _ he)) (by simp [PyData.canLayAll0] at h1; exact h1.2)]
  simp [SeqAt.shaped, PyData.canLay0, PyData.depth, h1, h2]
theorem carried_bools : ∀ bs : List Bool, CarriedAll (bs.map Value.bool) (bs.map PyData.bool)
  | [] => .nil
  | b :: r => .cons (.bool b) (carried_bools r)
section
variable {prog : Program} {w : World} {A : Around} {E : Value → Shared → Prop} {s : Shared} {a b : Addr} {Q : Value → Shared → Prop}
theorem ne_bools {bs cs : List Bool} (ha : s.heap.IsList a (bs.map Value.bool).toArray) (hb : s.heap.IsList b (cs.map Value.bool).toArray) (e : bs = cs) (hu : A.units + 64 < cLine) (h : Q (.bool false) s) :
    wpAny (model prog w) A (compareOp .NotEq (.ref a) (.ref b)) Q E s := by
  subst e
  refine ne_self (reads_newData ha (carried_bools bs)) (reads_newData hb (carried_bools bs)) (shaped_flat fun d hd => ?_) (SeqAt.noMix_of_shape (.list .bool) rfl _ _ (list_map_has fun _ => rfl) (list_map_has fun _ => rfl)) hu h
  obtain ⟨x, _, rfl⟩ := List.mem_map.mp hd
  exact ⟨rfl, rfl⟩
theorem ok_nil : ∀ y ∈ ([] : List Str), PyData.strOk y = true := fun _ h => nomatch h
theorem ok_cons {x : Str} {xs : List Str} (h : PyData.strOk x = true) (r : ∀ y ∈ xs, PyData.strOk y = true) : ∀ y ∈ x :: xs, PyData.strOk y = true := by
  intro y hy
  rcases List.mem_cons.mp hy with rfl | hy
  · exact h
  · exact r y hy
inductive Strs : List Value → List Str → Prop
  | nil : Strs [] []
  | cons {x y : Str} {t : Tok} {vs : List Value} {xs : List Str} : x = y → Strs vs xs → Strs (.str x t :: vs) (y :: xs)
theorem carried_strs : ∀ {vs : List Value} {xs : List Str}, Strs vs xs → CarriedAll vs (xs.map PyData.str)
  | _, _, .nil => .nil
  | _, _, .cons e r => by subst e; exact .cons (.str _ _) (carried_strs r)
theorem eq_strs {vs us : List Value} {xs : List Str} (ha : s.heap.IsList a vs.toArray) (hb : s.heap.IsList b us.toArray) (hu : A.units + 64 < cLine) (hv : Strs vs xs) (hus : Strs us xs) (ok : ∀ x ∈ xs, PyData.strOk x = true) (h : Q (.bool true) s) :
    wpAny (model prog w) A (compareOp .Eq (.ref a) (.ref b)) Q E s := by
  refine eq_self (reads_newData ha (carried_strs hv)) (reads_newData hb (carried_strs hus)) (shaped_flat fun d hd => ?_) (SeqAt.noMix_of_shape (.list .str) rfl _ _ (list_map_has fun _ => rfl) (list_map_has fun _ => rfl)) hu h
  obtain ⟨x, hx, rfl⟩ := List.mem_map.mp hd
  exact ⟨ok x hx, rfl⟩
end
end Mine
namespace Mine
/-- one auto of the suite: its address, its dict's, a token, its number (none: bare) -/
structure Ent where
  x : Addr
  d : Addr
  tk : Tok
  a : Option (Int × Tok)
def Ent.num (e : Ent) : Option Int := e.a.map (·.1)
def Ent.v (e : Ent) : Value := match e.a with
  | none => .ref 37
  | some (n, t) => .int n t
abbrev valD (H : Int) (tk : Tok) (v : Value) : Obj := W.dictOf [⟨H, .str (Str.ofString "value") tk, v⟩] 1
def Ent.two (H : Int) (e : Ent) : List (Addr × Obj) := [(e.x, W.instObj 62 e.d), (e.d, valD H e.tk e.v)]
def led (H : Int) (es : List Ent) : List (Addr × Obj) := es.flatMap (Ent.two H)
def adrs (es : List Ent) : List Addr := es.flatMap fun e => [e.x, e.d]
def bareOf (n : Int) : Option Int := if n.fmod 4 = 3 then none else some n
theorem led_app (H : Int) (a b : List Ent) : led H (a ++ b) = led H a ++ led H b := List.flatMap_append
theorem led_cons (H : Int) (e : Ent) (b : List Ent) : led H (e :: b) = (e.x, W.instObj 62 e.d) :: (e.d, valD H e.tk e.v) :: led H b := rfl
theorem led_fst (H : Int) (es : List Ent) : (led H es).map (·.1) = adrs es := by
  induction es with
  | nil => rfl
  | cons e r ih =>
    rw [led_cons]
    simp only [List.map_cons, ih]
    rfl
theorem adrs_app (a b : List Ent) : adrs (a ++ b) = adrs a ++ adrs b := List.flatMap_append
theorem adrs_cons (e : Ent) (b : List Ent) : adrs (e :: b) = e.x :: e.d :: adrs b := rfl
theorem led_adr {H : Int} {es : List Ent} {p : Addr × Obj} (hp : p ∈ led H es) : p.1 ∈ adrs es := by
  rw [← led_fst H]
  exact List.mem_map_of_mem hp
theorem AllLt.mem {d : Nat} : ∀ {l : List (Addr × Obj)}, AllLt d l → ∀ p ∈ l, p.1 < d
  | [], _, _, h => nomatch h
  | _ :: _, x, p, h => by
    rcases List.mem_cons.mp h with rfl | h
    · exact x.1
    · exact AllLt.mem x.2 p h
def Suite (H : Int) (ns : List Int) (i : Nat) (ys : List Value) (nx : List (Addr × Obj)) : Prop :=
  ∃ es : List Ent, ys = es.map (fun e => Value.ref e.x) ∧ nx = led H es ∧ es.map Ent.num = (ns.take i).map bareOf ∧ (adrs es).Nodup
theorem Suite.start (H : Int) (ns : List Int) : Suite H ns 0 [] [] := ⟨[], rfl, rfl, rfl, List.nodup_nil⟩
theorem take_snoc {ns : List Int} {i : Nat} {n : Int} (h : ns[i]? = some n) : ns.take (i + 1) = ns.take i ++ [n] := by
  rw [List.take_add_one, h]
  rfl
section
open LCg
variable {h₀ : Heap} {L I C D x d : Addr} {m : Str → Option Value} {s₁ : Shared} {oI oC : Obj} {S : List (Addr × Obj) → Prop} {h' : Heap} {tk : Nat} {nx : List (Addr × Obj)} {ys : List Value} {H : Int} {ns : List Int} {i : Nat} {n : Int} {t₁ : Tok}
theorem suite_end (a : Option (Int × Tok)) (F : Fr h₀ L h' m) (N : News h₀ L h' ((x, W.instObj 62 d) :: (d, valD H t₁ (Ent.v ⟨x, d, t₁, a⟩)) :: (I, oI) :: (C, oC) :: (D, lst ys) :: nx))
    (l1 : @LT.lt Nat _ I d ∧ @LT.lt Nat _ C d ∧ @LT.lt Nat _ D d ∧ AllLt d nx) (l2 : @LT.lt Nat _ d x) (off : Off3 I C D nx) (hS : ∀ nx, S nx) (hT : Suite H ns i ys nx) (hn : ns[i]? = some n) (hv : a.map (·.1) = bareOf n) :
    CompEnd h₀ L m s₁ I oI C oC D (lst ys) S (fun y nx' => Suite H ns (i + 1) (ys ++ [y]) nx') (.ref x) { s₁ with heap := h', toks := tk } := by
  obtain ⟨es, rfl, rfl, hM, hnd⟩ := hT
  have lt := AllLt.mem l1.2.2.2
  have ltA : ∀ b ∈ adrs es, b < d := by
    intro b hb
    rw [← led_fst H] at hb
    obtain ⟨p, hp, rfl⟩ := List.mem_map.mp hb
    exact lt p hp
  refine CompEnd.intro F N (led H (es ++ [⟨x, d, t₁, a⟩])) ?_ ?_ (hS _) ⟨es ++ [⟨x, d, t₁, a⟩], ?_, rfl, ?_, ?_⟩
  · intro p hp
    rw [led_app, led_cons] at hp
    simp only [List.mem_cons, List.mem_append] at hp ⊢
    rcases hp with h | h | h | h | h | h | h
    · exact .inr (.inr (.inl h))
    · exact .inr (.inr (.inr (.inl h)))
    · exact .inr (.inr (.inr (.inr (.inl h))))
    · exact .inr (.inr (.inr (.inr (.inr h))))
    · exact .inl h
    · exact .inr (.inl h)
    · exact nomatch h
  · refine Off3.of fun p hp => ?_
    rw [led_app, led_cons] at hp
    simp only [List.mem_cons, List.mem_append] at hp
    obtain ⟨a1, a2, a3, _⟩ := l1
    rcases hp with h | h | h | h
    · exact off.mem p h
    · subst h
      refine ⟨?_, ?_, ?_⟩ <;> (refine Nat.ne_of_gt ?_; exact Nat.lt_trans (by assumption) l2)
    · subst h
      exact ⟨Nat.ne_of_gt a1, Nat.ne_of_gt a2, Nat.ne_of_gt a3⟩
    · exact nomatch h
  · simp
  · rw [List.map_append, hM, take_snoc hn, List.map_append]
    simp only [List.map_cons, List.map_nil]
    congr 2
  · rw [adrs_app, List.nodup_append]
    refine ⟨hnd, ?_, ?_⟩
    · rw [adrs_cons]
      simp only [adrs, List.flatMap_nil, List.nodup_cons, List.mem_cons, List.not_mem_nil, or_false, not_false_eq_true, List.nodup_nil, and_true]
      exact Nat.ne_of_gt l2
    · intro b hb c hc
      have h1 := ltA b hb
      rw [adrs_cons] at hc
      simp only [adrs, List.flatMap_nil, List.mem_cons, List.not_mem_nil, or_false] at hc
      rcases hc with rfl | rfl
      · exact Nat.ne_of_lt (Nat.lt_trans h1 l2)
      · exact Nat.ne_of_lt h1
end
section
open LCg
variable {prog : Program} {w : World} {A : Around} {s : Shared} {h₀ : Heap} {L : Addr} {m : Str → Option Value} {env : Env}
/-- a comprehension over the suite that changes nothing -/
theorem rest_objs {elt : Expr} {x : Str} {scope : Scope} {cl : List (Str × Addr)} {S : List (Addr × Obj) → Prop} {Fin : List Value → List (Addr × Obj) → Prop} {H : Int} {es : List Ent} {nx₀ : List (Addr × Obj)} (g : Ent → Value) (hsub : ∀ p ∈ led H es, p ∈ nx₀)
    (turn : ∀ (e : Ent) ys I oI C oC D m₂ h tk (E' : Value → Shared → Prop), e ∈ es → NsObj oC m₂ → m₂ x = some (.ref e.x) → Fr h₀ L h m → News h₀ L h ((I, oI) :: (C, oC) :: (D, lst ys) :: (e.x, W.instObj 62 e.d) :: (e.d, valD H e.tk e.v) :: nx₀) → Off3 I C D nx₀ → ((@Ne Nat I C) ∧ (@Ne Nat I D) ∧ (@Ne Nat C D)) →
      wpAny (model prog w) A (eval elt (compEnvC scope cl C env)) (CompEnd h₀ L m { s with heap := h, toks := tk } I oI C oC D (lst ys) S (fun y nx' => nx' = nx₀ ∧ y = g e)) E' { s with heap := h, toks := tk })
    (fin : Fin (es.map g) nx₀) : CompRest prog w A h₀ L m env elt x scope cl s S (fun i v => (es.map fun e => Value.ref e.x).toArray[i]? = some v) Fin (es.map fun e => Value.ref e.x).toArray.size 0 [] nx₀ := by
  refine rest_grow (fun i ys nx => nx = nx₀ ∧ ys = (es.take i).map g) ?_ ?_ _ _ _ _ (Nat.zero_add _) ⟨rfl, rfl⟩
  · rintro i v ys nx I oI C oC D m₂ h tk E' hlt hP ⟨rfl, rfl⟩ hC hx F N off ne
    have hv : (es.map fun e => Value.ref e.x)[i]? = some v := by simpa using hP
    rw [List.getElem?_map] at hv
    obtain ⟨e, he, rfl⟩ := Option.map_eq_some_iff.mp hv
    have hm : e ∈ es := List.mem_of_getElem? he
    have hin : ∀ p ∈ Ent.two H e, p ∈ led H es := fun p hp => List.mem_flatMap.mpr ⟨e, hm, hp⟩
    refine wpAny_mono (turn e ((es.take i).map g) I oI C oC D m₂ h tk E' hm hC hx F (fun p hp => ?_) off ne) (fun y s' hq => ?_) fun _ _ e => e
    · simp only [List.mem_cons] at hp
      rcases hp with h | h | h | h | h | h
      · exact N p (by simp [h])
      · exact N p (by simp [h])
      · exact N p (by simp [h])
      · exact N p (by
          have := hsub p (hin p (by rw [h]; exact List.mem_cons_self))
          simp [this])
      · exact N p (by
          have := hsub p (hin p (by rw [h]; exact List.mem_cons_of_mem _ List.mem_cons_self))
          simp [this])
      · exact N p (by simp [h])
    · obtain ⟨h', tk', nx', e', F', N', off', hS', rfl, rfl⟩ := hq
      refine ⟨h', tk', nx', e', F', N', off', hS', rfl, ?_⟩
      rw [List.take_add_one, he]
      simp
  · rintro ys nx ⟨rfl, rfl⟩
    have : (es.take (es.map fun e => Value.ref e.x).toArray.size) = es := by simp
    rw [this]
    exact fin
end
end Mine
namespace Mine
def fillV (G n : Int) : Int := if n.fmod 4 = 3 then G + 1 else n
def fillG : Int → List Int → Int
  | G, [] => G
  | G, n :: r => fillG (max G (fillV G n)) r
def fills : Int → List Int → List Int
  | _, [] => []
  | G, n :: r => fillV G n :: fills (max G (fillV G n)) r
theorem fills_snoc (n : Int) : ∀ (a : List Int) (G : Int), fills G (a ++ [n]) = fills G a ++ [fillV (fillG G a) n]
  | [], _ => rfl
  | _ :: r, G => by simp only [List.cons_append, fills, fillG, fills_snoc n r]
theorem fillG_snoc (n : Int) : ∀ (a : List Int) (G : Int), fillG G (a ++ [n]) = max (fillG G a) (fillV (fillG G a) n)
  | [], _ => rfl
  | _ :: r, G => by simp only [List.cons_append, fillG, fillG_snoc n r]
theorem fills_length : ∀ (a : List Int) (G : Int), (fills G a).length = a.length
  | [], _ => rfl
  | _ :: r, G => by simp only [fills, List.length_cons, fills_length r]
theorem fillG_le : ∀ (a : List Int) (G : Int), G ≤ fillG G a ∧ ∀ v ∈ fills G a, v ≤ fillG G a
  | [], G => ⟨Int.le_refl _, fun _ h => nomatch h⟩
  | n :: r, G => by
    obtain ⟨h1, h2⟩ := fillG_le r (max G (fillV G n))
    refine ⟨?_, fun v hv => ?_⟩
    · simp only [fillG]; omega
    · simp only [fills] at hv
      simp only [fillG]
      rcases List.mem_cons.mp hv with rfl | hv
      · omega
      · exact h2 v hv
theorem fillG_mem : ∀ (a : List Int) (G : Int), fillG G a = G ∨ fillG G a ∈ fills G a
  | [], G => .inl rfl
  | n :: r, G => by
    simp only [fillG, fills]
    rcases fillG_mem r (max G (fillV G n)) with h | h
    · rw [h]
      rcases Int.le_total G (fillV G n) with q | q
      · rw [Int.max_eq_right q]; exact .inr List.mem_cons_self
      · rw [Int.max_eq_left q]; exact .inl rfl
    · exact .inr (List.mem_cons_of_mem _ h)
theorem great_is {a : List Int} {M : Int} (h1 : M ∈ [0] ++ fills 0 a) (h2 : ∀ v ∈ [0] ++ fills 0 a, v ≤ M) : M = fillG 0 a := by
  obtain ⟨g1, g2⟩ := fillG_le a 0
  have u : fillG 0 a ≤ M := by
    rcases fillG_mem a 0 with h | h
    · exact h2 _ (by rw [h]; simp)
    · exact h2 _ (List.mem_append.mpr (.inr h))
  have l : M ≤ fillG 0 a := by
    rcases List.mem_append.mp h1 with h | h
    · rw [List.mem_singleton.mp h]; exact g1
    · exact g2 _ h
  omega
def Ent.key (e : Ent) : Addr × Addr := (e.x, e.d)
theorem adrs_key (es : List Ent) : adrs es = (es.map Ent.key).flatMap fun k => [k.1, k.2] := by
  induction es with
  | nil => rfl
  | cons e r ih => rw [adrs_cons, ih]; rfl
section
variable {prog : Program} {w : World} {A : Around} {E : Value → Shared → Prop} {s : Shared} {env : Env} {h₀ : Heap} {x : Str} {body : List Stmt} {Q : Flow → Shared → Prop}
/-- the end of a turn that fills -/
def FillPost (h₀ : Heap) (L : Addr) (x g : Str) (m₀ : Str → Option Value) (H : Int) (I : Addr) (oI : Obj) (ex ed : Addr) (rest : List (Addr × Obj)) (N M : Int) (s₁ : Shared) (Q : Flow → Shared → Prop) (f : Flow) (s₂ : Shared) : Prop :=
  match f with
  | .ret v => Q (.ret v) s₂
  | .brk => Q .next s₂
  | _ => ∃ h' tk m' tM t₁ tN, s₂ = { s₁ with heap := h', toks := tk } ∧ Fr h₀ L h' m' ∧ m' g = some (.int M tM) ∧ (∀ z, z ≠ x → z ≠ g → m' z = m₀ z) ∧ News h₀ L h' ((ex, W.instObj 62 ed) :: (ed, valD H t₁ (.int N tN)) :: (I, oI) :: rest)
theorem FillPost.next {L : Addr} {g : Str} {m₀ m' : Str → Option Value} {H : Int} {I : Addr} {oI : Obj} {ex ed : Addr} {rest : List (Addr × Obj)} {N M M' : Int} {s₁ : Shared} {h' : Heap} {tk : Nat} {tM t₁ tN : Tok}
    (F : Fr h₀ L h' m') (N' : News h₀ L h' ((ex, W.instObj 62 ed) :: (ed, valD H t₁ (.int N tN)) :: (I, oI) :: rest)) (hg : m' g = some (.int M' tM)) (e : M' = M) (hz : ∀ z, z ≠ x → z ≠ g → m' z = m₀ z) :
    FillPost h₀ L x g m₀ H I oI ex ed rest N M s₁ Q .next { s₁ with heap := h', toks := tk } := ⟨h', tk, m', tM, t₁, tN, rfl, F, e ▸ hg, hz, N'⟩
theorem loop_fill {l : Addr} {H : Int} {es : List Ent} {ns : List Int} {nn : Nat} {m₀ : Str → Option Value} {g : Str} {t₀ : Tok}
    (hh : A.handled = none) (F : Fr h₀ env.locals s.heap m₀) (N : News h₀ env.locals s.heap ((l, W.listOf (es.map fun e => Value.ref e.x).toArray nn) :: led H es)) (hg : m₀ g = some (.int 0 t₀)) (hxg : x ≠ g)
    (hM : es.map Ent.num = ns.map bareOf) (hnd : (adrs es).Nodup) (hl : LCg.Off1 l (led H es))
    (turnN : ∀ ex ed tk₁ G tG h tk (I : Addr) oI rest, @Ne Nat ex ed → @Ne Nat I ed → (∀ p ∈ rest, p.1 ≠ ed) → Fr h₀ env.locals h (fun y => if y = x then some (.ref ex) else if y = g then some (.int G tG) else m₀ y) → News h₀ env.locals h ((ex, W.instObj 62 ed) :: (ed, valD H tk₁ (.ref 37)) :: (I, oI) :: rest) →
      wpAny (model prog w) A (execs body env) (FillPost h₀ env.locals x g m₀ H I oI ex ed rest (G + 1) (max G (G + 1)) { s with heap := h, toks := tk } Q) E { s with heap := h, toks := tk })
    (turnS : ∀ ex ed tk₁ G tG n t h tk (I : Addr) oI rest, @Ne Nat ex ed → @Ne Nat I ed → (∀ p ∈ rest, p.1 ≠ ed) → Fr h₀ env.locals h (fun y => if y = x then some (.ref ex) else if y = g then some (.int G tG) else m₀ y) → News h₀ env.locals h ((ex, W.instObj 62 ed) :: (ed, valD H tk₁ (.int n t)) :: (I, oI) :: rest) →
      wpAny (model prog w) A (execs body env) (FillPost h₀ env.locals x g m₀ H I oI ex ed rest n (max G n) { s with heap := h, toks := tk } Q) E { s with heap := h, toks := tk })
    (done : ∀ (es' : List Ent) (u : Str → Option Value) G t h tk, es'.map Ent.key = es.map Ent.key → es'.map Ent.num = (fills 0 ns).map some → Fr h₀ env.locals h (fun y => if y = x then u y else if y = g then some (.int G t) else m₀ y) → News h₀ env.locals h ((l, W.listOf (es'.map fun e => Value.ref e.x).toArray nn) :: led H es') → Q .next { s with heap := h, toks := tk }) :
    wpAny (model prog w) A (pyIter (.ref l)) (fun it s₂ => LoopAtV prog w A h₀ env x body Q E it s₂) E s := by
  have off1 : ∀ {D : Addr} {l : List (Addr × Obj)}, LCg.Off1 D l → ∀ p ∈ l, p.1 ≠ D := by
    intro D l
    induction l with
    | nil => exact fun _ p h => nomatch h
    | cons q r ih =>
      intro h p hp
      rcases List.mem_cons.mp hp with rfl | hp
      · exact h.1
      · exact ih h.2 p hp
  have hlA : ∀ b ∈ adrs es, b ≠ l := by
    intro b hb
    rw [← led_fst H] at hb
    obtain ⟨p, hp, rfl⟩ := List.mem_map.mp hb
    exact off1 hl p hp
  refine loop_grow (fun i m nx => (∃ t, m g = some (.int (fillG 0 (ns.take i)) t)) ∧ (∀ z, z ≠ x → z ≠ g → m z = m₀ z) ∧ ∃ es' : List Ent, nx = (l, W.listOf (es.map fun e => Value.ref e.x).toArray nn) :: led H es' ∧ es'.map Ent.key = es.map Ent.key ∧ es'.map Ent.num = (fills 0 (ns.take i)).map some ++ (ns.drop i).map bareOf)
    hh List.mem_cons_self F N ⟨⟨t₀, hg⟩, fun _ _ _ => rfl, es, rfl, rfl, hM⟩ ?_ ?_
  · rintro i v m₁ nx h tk oI hv ⟨⟨tG, hG⟩, hz, es', rfl, hk, hn⟩ _ hoff F₁ N₁
    rw [List.getElem?_map] at hv
    obtain ⟨e, he, rfl⟩ := Option.map_eq_some_iff.mp hv
    have hlen : es'.length = es.length := by have := congrArg List.length hk; simpa using this
    have hlenN : es.length = ns.length := by have := congrArg List.length hM; simpa using this
    have hi : i < es.length := (List.getElem?_eq_some_iff.mp he).1
    have hi' : i < es'.length := by omega
    obtain ⟨e', he'⟩ : ∃ e', es'[i]? = some e' := ⟨_, List.getElem?_eq_getElem hi'⟩
    have hke : e'.key = e.key := by
      have h1 : (es'.map Ent.key)[i]? = some e'.key := by rw [List.getElem?_map, he']; rfl
      have h2 : (es.map Ent.key)[i]? = some e.key := by rw [List.getElem?_map, he]; rfl
      rw [hk, h2] at h1
      exact (Option.some.inj h1).symm
    have hx' : e'.x = e.x := congrArg Prod.fst hke
    have hd' : e'.d = e.d := congrArg Prod.snd hke
    obtain ⟨n, hn'⟩ : ∃ n, ns[i]? = some n := ⟨_, List.getElem?_eq_getElem (by omega)⟩
    have hlf : (fills 0 (ns.take i)).length = i := by rw [fills_length, List.length_take]; omega
    have hnum : e'.num = bareOf n := by
      have h1 : (es'.map Ent.num)[i]? = some e'.num := by rw [List.getElem?_map, he']; rfl
      rw [hn, List.getElem?_append_right (by rw [List.length_map, hlf]; exact Nat.le_refl _), List.length_map, hlf, Nat.sub_self, List.getElem?_map, List.getElem?_drop, Nat.add_zero, hn'] at h1
      exact (Option.some.inj h1).symm
    have hsp : es' = es'.take i ++ e' :: es'.drop (i + 1) := by
      have : es'.drop i = e' :: es'.drop (i + 1) := by
        rw [List.drop_eq_getElem_cons hi']
        have := (List.getElem?_eq_some_iff.mp he').2
        rw [this]
      rw [← this, List.take_append_drop]
    generalize hpre : es'.take i = pre at hsp
    generalize hpost : es'.drop (i + 1) = post at hsp
    have hnd' : (adrs es').Nodup := by rw [adrs_key, hk, ← adrs_key]; exact hnd
    have hlA' : ∀ b ∈ adrs es', b ≠ l := by rw [adrs_key, hk, ← adrs_key]; exact hlA
    have hAe : adrs es' = adrs pre ++ e'.x :: e'.d :: adrs post := by rw [hsp, adrs_app, adrs_cons]
    rw [hAe] at hnd' hlA'
    have hnd2 := List.nodup_append.mp hnd'
    have hxd : e'.x ≠ e'.d := fun q => by
      have := hnd2.2.1
      rw [List.nodup_cons] at this
      exact this.1 (by rw [q]; exact List.mem_cons_self)
    have hdp : e'.d ∉ adrs post := by
      have := hnd2.2.1
      rw [List.nodup_cons, List.nodup_cons] at this
      exact this.2.1
    have hpd : ∀ b ∈ adrs pre, b ≠ e'.d := fun b hb => hnd2.2.2 b hb _ (List.mem_cons_of_mem _ List.mem_cons_self)
    have hld : l ≠ e'.d := Ne.symm (hlA' _ (List.mem_append.mpr (.inr (List.mem_cons_of_mem _ List.mem_cons_self))))
    generalize hrest : (l, W.listOf (es.map fun e => Value.ref e.x).toArray nn) :: (led H pre ++ led H post) = rest
    have hr : ∀ p ∈ rest, p.1 ≠ e'.d := by
      rw [← hrest]
      intro p hp
      rcases List.mem_cons.mp hp with rfl | hp
      · exact hld
      · rcases List.mem_append.mp hp with hp | hp
        · exact hpd _ (led_adr hp)
        · exact fun q => hdp (q ▸ led_adr hp)
    have hId : s.heap.objs.size ≠ e'.d := fun q => hoff (e'.d, valD H e'.tk e'.v) (by
      rw [hsp, led_app, led_cons]
      exact List.mem_cons_of_mem _ (List.mem_append.mpr (.inr (List.mem_cons_of_mem _ List.mem_cons_self)))) q.symm
    have F₂ : Fr h₀ env.locals h (fun y => if y = x then some (.ref e'.x) else if y = g then some (.int (fillG 0 (ns.take i)) tG) else m₀ y) := by
      have e1 : (fun y => if y = x then some (Value.ref e'.x) else if y = g then some (.int (fillG 0 (ns.take i)) tG) else m₀ y) = fun y => if y = x then some (.ref e.x) else m₁ y := by
        funext y
        by_cases hy : y = x
        · rw [if_pos hy, if_pos hy, hx']
        · rw [if_neg hy, if_neg hy]
          by_cases hy2 : y = g
          · rw [if_pos hy2, hy2, hG]
          · rw [if_neg hy2, hz y hy hy2]
      rw [e1]; exact F₁
    have N₂ : News h₀ env.locals h ((e'.x, W.instObj 62 e'.d) :: (e'.d, valD H e'.tk e'.v) :: (s.heap.objs.size, oI) :: rest) := by
      intro p hp
      refine N₁ p ?_
      rw [hsp, led_app, led_cons]
      rw [← hrest] at hp
      simp only [List.mem_cons, List.mem_append] at hp ⊢
      rcases hp with h | h | h | h | h | h <;> simp [h]
    have fin : ∀ (N M : Int) (s₂ : Shared), fillV (fillG 0 (ns.take i)) n = N → max (fillG 0 (ns.take i)) N = M → (∃ h' tk' m' tM t₁ tN, s₂ = { s with heap := h', toks := tk' } ∧ Fr h₀ env.locals h' m' ∧ m' g = some (.int M tM) ∧ (∀ z, z ≠ x → z ≠ g → m' z = m₀ z) ∧ News h₀ env.locals h' ((e'.x, W.instObj 62 e'.d) :: (e'.d, valD H t₁ (.int N tN)) :: (s.heap.objs.size, oI) :: rest)) →
        GrowEnd h₀ env.locals l (W.listOf (es.map fun e => Value.ref e.x).toArray nn) s.heap.objs.size oI (fun m nx => (∃ t, m g = some (.int (fillG 0 (ns.take (i + 1))) t)) ∧ (∀ z, z ≠ x → z ≠ g → m z = m₀ z) ∧ ∃ es' : List Ent, nx = (l, W.listOf (es.map fun e => Value.ref e.x).toArray nn) :: led H es' ∧ es'.map Ent.key = es.map Ent.key ∧ es'.map Ent.num = (fills 0 (ns.take (i + 1))).map some ++ (ns.drop (i + 1)).map bareOf) { s with heap := h, toks := tk } s₂ := by
      rintro N M s₂ hN hM' ⟨h', tk', m', tM, t₁, tN, rfl, F', hg', hz', N'⟩
      refine ⟨h', tk', m', (l, W.listOf (es.map fun e => Value.ref e.x).toArray nn) :: led H (pre ++ ⟨e'.x, e'.d, t₁, some (N, tN)⟩ :: post), rfl, F', ?_, List.mem_cons_self, ?_, ⟨tM, ?_⟩, hz', _, rfl, ?_, ?_⟩
      · intro p hp
        refine N' p ?_
        rw [led_app, led_cons] at hp
        rw [← hrest]
        simp only [List.mem_cons, List.mem_append] at hp ⊢
        rcases hp with h | h | h | h | h | h
        · simp [h]
        · simp [h]
        · simp [h]
        · simp [h]
        · exact .inr (.inl h)
        · simp [h]
      · intro p hp
        rcases List.mem_cons.mp hp with rfl | hp
        · exact hoff _ List.mem_cons_self
        · have hp1 := led_adr hp
          have e2 : adrs (pre ++ ⟨e'.x, e'.d, t₁, some (N, tN)⟩ :: post) = adrs es' := by rw [hAe, adrs_app, adrs_cons]
          rw [e2, ← led_fst H] at hp1
          obtain ⟨q, hq, e3⟩ := List.mem_map.mp hp1
          rw [← e3]
          exact hoff q (List.mem_cons_of_mem _ hq)
      · rw [take_snoc hn', fillG_snoc, hN, hM']; exact hg'
      · rw [← hk, hsp, List.map_append, List.map_append]; rfl
      · rw [take_snoc hn', fills_snoc, hN]
        have h1 : pre.map Ent.num = (fills 0 (ns.take i)).map some := by
          have := congrArg (List.take i) hn
          rw [← List.map_take, hpre, List.take_append_of_le_length (by rw [List.length_map, hlf]; exact Nat.le_refl _), ← List.map_take] at this
          rw [this, List.take_of_length_le (by omega)]
        have h2 : post.map Ent.num = (ns.drop (i + 1)).map bareOf := by
          have := congrArg (List.drop (i + 1)) hn
          rw [← List.map_drop, hpost, List.drop_append, List.length_map, hlf, ← List.map_drop] at this
          rw [this, List.drop_of_length_le (by omega)]
          have e4 : i + 1 - i = 1 := by omega
          rw [e4, ← List.map_drop, List.drop_drop]
          simp
        rw [List.map_append, List.map_cons, h1, h2, List.map_append]
        simp [Ent.num]
    cases ha : e'.a with
    | none =>
      have hb : n.fmod 4 = 3 := by
        have : bareOf n = none := by rw [← hnum]; unfold Ent.num; rw [ha]; rfl
        unfold bareOf at this
        split at this
        · assumption
        · cases this
      have hv' : e'.v = .ref 37 := by unfold Ent.v; rw [ha]
      rw [hv'] at N₂
      refine wpAny_mono (turnN e'.x e'.d e'.tk _ tG h tk s.heap.objs.size oI rest hxd hId hr F₂ N₂) (fun f s₂ p => ?_) fun _ _ e => e
      have hN : fillV (fillG 0 (ns.take i)) n = fillG 0 (ns.take i) + 1 := by unfold fillV; rw [if_pos hb]
      cases f with
      | ret v => exact p
      | brk => exact p
      | next => exact fin _ _ _ hN rfl p
      | cont => exact fin _ _ _ hN rfl p
    | some a =>
      obtain ⟨k, t⟩ := a
      have hb : n.fmod 4 ≠ 3 ∧ k = n := by
        have : bareOf n = some k := by rw [← hnum]; unfold Ent.num; rw [ha]; rfl
        unfold bareOf at this
        split at this
        · cases this
        · rename_i hne
          exact ⟨hne, (Option.some.inj this).symm⟩
      obtain ⟨hb, rfl⟩ := hb
      have hv' : e'.v = .int k t := by unfold Ent.v; rw [ha]
      rw [hv'] at N₂
      refine wpAny_mono (turnS e'.x e'.d e'.tk _ tG k t h tk s.heap.objs.size oI rest hxd hId hr F₂ N₂) (fun f s₂ p => ?_) fun _ _ e => e
      have hN : fillV (fillG 0 (ns.take i)) k = k := by unfold fillV; rw [if_neg hb]
      cases f with
      | ret v => exact p
      | brk => exact p
      | next => exact fin _ _ _ hN rfl p
      | cont => exact fin _ _ _ hN rfl p
  · rintro m₁ nx h tk ⟨⟨tG, hG⟩, hz, es', rfl, hk, hn⟩ _ F₁ N₁
    have hlenN : es.length = ns.length := by have := congrArg List.length hM; simpa using this
    rw [List.length_map, hlenN, List.take_length, List.drop_length, List.map_nil, List.append_nil] at hn
    have hrefs : (es'.map fun e => Value.ref e.x) = es.map fun e => Value.ref e.x := by
      have h1 : (es'.map fun e => Value.ref e.x) = (es'.map Ent.key).map fun k => Value.ref k.1 := by rw [List.map_map]; rfl
      have h2 : (es.map fun e => Value.ref e.x) = (es.map Ent.key).map fun k => Value.ref k.1 := by rw [List.map_map]; rfl
      rw [h1, hk, ← h2]
    refine done es' m₁ (fillG 0 (ns.take (es.map fun e => Value.ref e.x).length)) tG h tk hk hn ?_ (by rw [hrefs]; exact N₁)
    have e1 : (fun y => if y = x then m₁ y else if y = g then some (.int (fillG 0 (ns.take (es.map fun e => Value.ref e.x).length)) tG) else m₀ y) = m₁ := by
      funext y
      by_cases hy : y = x
      · rw [if_pos hy]
      · rw [if_neg hy]
        by_cases hy2 : y = g
        · rw [if_pos hy2, hy2, hG]
        · rw [if_neg hy2, hz y hy hy2]
    rw [e1]; exact F₁
end

section
variable {prog : Program} {w : World} {A : Around} {E : Value → Shared → Prop} {s : Shared} {env : Env} {h₀ : Heap} {x : Str} {body : List Stmt} {Q : Flow → Shared → Prop}
def BaseEnd (h₀ : Heap) (L : Addr) (I : Addr) (oI : Obj) (J : (Str → Option Value) → List (Addr × Obj) → Prop) (s₁ s₂ : Shared) : Prop :=
  ∃ h' tk m' nx, s₂ = { s₁ with heap := h', toks := tk } ∧ Fr h₀ L h' m' ∧ News h₀ L h' ((I, oI) :: nx) ∧ (∀ p ∈ nx, p.1 ≠ I) ∧ J m' nx
def BasePost (h₀ : Heap) (L : Addr) (I : Addr) (oI : Obj) (J : (Str → Option Value) → List (Addr × Obj) → Prop) (s₁ : Shared) (Q : Flow → Shared → Prop) (f : Flow) (s₂ : Shared) : Prop :=
  match f with
  | .ret v => Q (.ret v) s₂
  | .brk => Q .next s₂
  | _ => BaseEnd h₀ L I oI J s₁ s₂
/-- a loop over a list of the ground's, its invariant over a ledger that may grow -/
theorem loop_base {l : Addr} {vs : List Value} {m₀ : Str → Option Value} {news : List (Addr × Obj)} (J : Nat → (Str → Option Value) → List (Addr × Obj) → Prop)
    (hh : A.handled = none) (hl : h₀.IsList l vs.toArray) (F : Fr h₀ env.locals s.heap m₀) (N : News h₀ env.locals s.heap news) (hj : J 0 m₀ news)
    (turn : ∀ (i : Nat) v m₁ nx h tk oI, vs[i]? = some v → J i m₁ nx → (∀ p ∈ nx, p.1 ≠ s.heap.objs.size) → Fr h₀ env.locals h (fun y => if y = x then some v else m₁ y) → News h₀ env.locals h ((s.heap.objs.size, oI) :: nx) →
      wpAny (model prog w) A (execs body env) (BasePost h₀ env.locals s.heap.objs.size oI (J (i + 1)) { s with heap := h, toks := tk } Q) E { s with heap := h, toks := tk })
    (done : ∀ m₁ nx h tk, J vs.length m₁ nx → Fr h₀ env.locals h m₁ → News h₀ env.locals h nx → Q .next { s with heap := h, toks := tk }) :
    wpAny (model prog w) A (pyIter (.ref l)) (fun it s₂ => LoopAtV prog w A h₀ env x body Q E it s₂) E s := by
  obtain ⟨ol, hol₀, hlr⟩ := id hl
  have hol := F.keep _ _ hol₀
  have hls : s.heap.IsList l vs.toArray := ⟨_, hol, hlr⟩
  have hne : l ≠ s.heap.objs.size := Nat.ne_of_lt (Heap.lt_size hol)
  have hlt : ∀ p ∈ news, p.1 ≠ s.heap.objs.size := fun p hp => Nat.ne_of_lt (Heap.lt_size (N p hp).1)
  refine wpAny_pyIter_list hls ?_
  have WK := Walks.list (prog := prog) (w := w) hh s.heap.objs.size l hne vs.toArray
  refine ⟨_, _, _, vs.toArray.size, _, _, m₀, news, (fun i m nx => J i m nx), rfl, WK, ?_, ?_, ?_, ⟨⟨_, Heap.get?_push_size _ rfl, rfl, rfl⟩, hls.at fun o e => Heap.get?_push_of_some _ e⟩, F.push _, (fun p hp => ⟨Heap.get?_push_of_some _ (N p hp).1, (N p hp).2⟩), hj, ?_, ?_⟩
  · intro hm
    rcases List.mem_cons.mp hm with e | hm
    · exact absurd F.ns.lt (e ▸ Nat.lt_irrefl _)
    · have e := List.mem_singleton.mp hm
      have h1 := Heap.lt_size hol₀
      have h2 := F.above
      rw [e] at h2
      exact absurd (Nat.lt_of_lt_of_le h1 h2) (Nat.lt_irrefl _)
  · intro b hb
    rw [List.mem_singleton.mp hb]
    exact next_is_new F
  · intro p hp hI
    exact hlt p hp (List.mem_singleton.mp hI)
  · rintro i v m₁ nx s₁ own ⟨h, tk, rfl⟩ hin hP hJ hoff hown hget hfp hst F₁ N₁
    obtain ⟨oI, hoI, _⟩ := hst.1
    have hI : (s.heap.objs.size, oI) ∈ own := hfp _ (List.mem_cons_self) (next_is_new F) oI hoI
    have hoff' : ∀ p ∈ nx, p.1 ≠ s.heap.objs.size := fun p hp e => hoff p hp (by rw [e]; exact List.mem_cons_self)
    have N₂ : News h₀ env.locals h ((s.heap.objs.size, oI) :: nx) := fun p hp => N₁ p (by
      rcases List.mem_cons.mp hp with hp | hp
      · rw [hp]; exact List.mem_append.mpr (.inl hI)
      · exact List.mem_append.mpr (.inr hp))
    have hP' : vs[i]? = some v := by simpa using hP
    refine wpAny_mono (turn i v m₁ nx h tk oI hP' hJ hoff' F₁ N₂) (fun f s₂ p => ?_) fun _ _ e => e
    have fin : BaseEnd h₀ env.locals s.heap.objs.size oI (J (i + 1)) { s with heap := h, toks := tk } s₂ →
        LoopStepU h₀ env.locals [s.heap.objs.size] own (fun m nx => J (i + 1) m nx) { s with heap := h, toks := tk } .next s₂ := by
      rintro ⟨h', tk', m', nx', e, F', N', ho', hJ'⟩
      refine ⟨rfl, h', tk', m', nx', e, F', fun p hp => ?_, fun p hp hq => ho' p hp (List.mem_singleton.mp hq), hJ'⟩
      rcases List.mem_append.mp hp with hp | hp
      · have hg : h.get? p.1 = some p.2 := hget p hp
        rcases List.mem_cons.mp (hown p hp) with e1 | e1
        · have : p = (s.heap.objs.size, oI) := Prod.ext e1 (by rw [e1] at hg; exact Option.some.inj (hg.symm.trans hoI))
          rw [this]
          exact N' _ List.mem_cons_self
        · have e2 := List.mem_singleton.mp e1
          have h3 := (N₁ p (List.mem_append.mpr (.inl hp))).2.2
          rw [e2, hol₀] at h3
          cases h3
      · exact N' p (List.mem_cons_of_mem _ hp)
    cases f with
    | ret v => exact .ret p
    | brk => exact .brk p
    | next => exact .next (fin p)
    | cont => exact .cont (fin p)
  · rintro h' tk m' nx F' N' _ hJ
    exact done m' nx h' tk (by simpa using hJ) F' N'
/-- the end of a turn of due -/
def DuePost (h₀ : Heap) (L : Addr) (x : Str) (m₀ : Str → Option Value) (I : Addr) (oI : Obj) (dl : Addr) (old : List (Addr × Obj)) (ds : List Int) (s₁ : Shared) (Q : Flow → Shared → Prop) (f : Flow) (s₂ : Shared) : Prop :=
  match f with
  | .ret v => Q (.ret v) s₂
  | .brk => Q .next s₂
  | _ => ∃ h' tk m' arr nn, s₂ = { s₁ with heap := h', toks := tk } ∧ Fr h₀ L h' m' ∧ (∀ z, z ≠ x → m' z = m₀ z) ∧ IntsAre (Array.toList arr) ds ∧ News h₀ L h' ((dl, W.listOf arr nn) :: (I, oI) :: old)
theorem DuePost.next {L : Addr} {m₀ m' : Str → Option Value} {I : Addr} {oI : Obj} {dl : Addr} {old all : List (Addr × Obj)} {ds : List Int} {arr : Array Value} {nn : Nat} {s₁ : Shared} {h' : Heap} {tk : Nat}
    (F : Fr h₀ L h' m') (N' : News h₀ L h' all) (sub : ∀ p ∈ (dl, W.listOf arr nn) :: (I, oI) :: old, p ∈ all) (hi : IntsAre arr.toList ds) (hz : ∀ z, z ≠ x → m' z = m₀ z) :
    DuePost h₀ L x m₀ I oI dl old ds s₁ Q .next { s₁ with heap := h', toks := tk } := ⟨h', tk, m', arr, nn, rfl, F, hz, hi, fun p hp => N' p (sub p hp)⟩
theorem loop_due {l dl : Addr} {vs : List Value} {ns : List Int} {nn : Nat} {m₀ : Str → Option Value} {old : List (Addr × Obj)}
    (hh : A.handled = none) (hl : h₀.IsList l vs.toArray) (hi : IntsAre vs ns) (F : Fr h₀ env.locals s.heap m₀) (N : News h₀ env.locals s.heap ((dl, W.listOf #[] nn) :: old)) (hdl : ∀ p ∈ old, p.1 ≠ dl)
    (turn : ∀ (pre : List Int) n t us nn h tk (I : Addr) oI, pre ++ [n] <+: ns → us.length ≤ ns.length → us.length = pre.length → IntsAre us (fills 0 pre) → @Ne Nat dl I → (∀ p ∈ old, p.1 ≠ I) → Fr h₀ env.locals h (fun y => if y = x then some (.int n t) else m₀ y) → News h₀ env.locals h ((dl, W.listOf us.toArray nn) :: (I, oI) :: old) →
      wpAny (model prog w) A (execs body env) (DuePost h₀ env.locals x m₀ I oI dl old (fills 0 (pre ++ [n])) { s with heap := h, toks := tk } Q) E { s with heap := h, toks := tk })
    (done : ∀ us nn (u : Str → Option Value) h tk, us.length = ns.length → IntsAre us (fills 0 ns) → Fr h₀ env.locals h (fun y => if y = x then u y else m₀ y) → News h₀ env.locals h ((dl, W.listOf us.toArray nn) :: old) → Q .next { s with heap := h, toks := tk }) :
    wpAny (model prog w) A (pyIter (.ref l)) (fun it s₂ => LoopAtV prog w A h₀ env x body Q E it s₂) E s := by
  have hlen := hi.length
  refine loop_base (fun i m nx => (∀ z, z ≠ x → m z = m₀ z) ∧ ∃ us nn, IntsAre us (fills 0 (ns.take i)) ∧ nx = (dl, W.listOf us.toArray nn) :: old) hh hl F N ⟨fun _ _ => rfl, [], nn, .nil, rfl⟩ ?_ ?_
  · rintro i v m₁ nx h tk oI hv ⟨hz, us, nn, hus, rfl⟩ hoff F₁ N₁
    obtain ⟨n, t, rfl, hn⟩ := IntsAre.at hi i v hv
    have hil : i < ns.length := (List.getElem?_eq_some_iff.mp hn).1
    have hul : us.length = i := by rw [hus.length, fills_length, List.length_take]; omega
    have F₂ : Fr h₀ env.locals h (fun y => if y = x then some (.int n t) else m₀ y) := by
      have e1 : (fun y => if y = x then some (Value.int n t) else m₀ y) = fun y => if y = x then some (.int n t) else m₁ y := by
        funext y
        by_cases hy : y = x
        · rw [if_pos hy, if_pos hy]
        · rw [if_neg hy, if_neg hy, hz y hy]
      rw [e1]; exact F₁
    refine wpAny_mono (turn (ns.take i) n t us nn h tk s.heap.objs.size oI (by rw [← take_snoc hn]; exact List.take_prefix _ _) (by omega) (by rw [List.length_take]; omega) hus (hoff _ List.mem_cons_self) (fun p hp => hoff p (List.mem_cons_of_mem _ hp)) F₂ (fun p hp => N₁ p (by
      simp only [List.mem_cons] at hp ⊢
      rcases hp with h | h | h <;> simp [h]))) (fun f s₂ p => ?_) fun _ _ e => e
    have fin : (∃ h' tk' m' arr nn, s₂ = { s with heap := h', toks := tk' } ∧ Fr h₀ env.locals h' m' ∧ (∀ z, z ≠ x → m' z = m₀ z) ∧ IntsAre (Array.toList arr) (fills 0 (ns.take i ++ [n])) ∧ News h₀ env.locals h' ((dl, W.listOf arr nn) :: (s.heap.objs.size, oI) :: old)) →
        BaseEnd h₀ env.locals s.heap.objs.size oI (fun m nx => (∀ z, z ≠ x → m z = m₀ z) ∧ ∃ us nn, IntsAre us (fills 0 (ns.take (i + 1))) ∧ nx = (dl, W.listOf us.toArray nn) :: old) { s with heap := h, toks := tk } s₂ := by
      rintro ⟨h', tk', m', arr, nn', rfl, F', hz', hi', N'⟩
      obtain ⟨us'⟩ := arr
      refine ⟨h', tk', m', _, rfl, F', ?_, ?_, hz', us', nn', by rw [take_snoc hn]; exact hi', rfl⟩
      · intro p hp
        refine N' p ?_
        simp only [List.mem_cons] at hp ⊢
        rcases hp with h | h | h <;> simp [h]
      · intro p hp
        rcases List.mem_cons.mp hp with rfl | hp
        · exact hoff (dl, W.listOf us.toArray nn) List.mem_cons_self
        · exact hoff p (List.mem_cons_of_mem _ hp)
    cases f with
    | ret v => exact p
    | brk => exact p
    | next => exact fin p
    | cont => exact fin p
  · rintro m₁ nx h tk ⟨hz, us, nn, hus, rfl⟩ F₁ N₁
    have e2 : ns.take vs.length = ns := List.take_of_length_le (by omega)
    rw [e2] at hus
    refine done us nn m₁ h tk (by rw [hus.length, fills_length]) hus ?_ N₁
    have e1 : (fun y => if y = x then m₁ y else m₀ y) = m₁ := by
      funext y
      by_cases hy : y = x
      · rw [if_pos hy]
      · rw [if_neg hy, hz y hy]
    rw [e1]; exact F₁
theorem due_ints {pre : List Int} {n : Int} {us : List Value} {v : Int} {t : Tok} (hi : IntsAre us (fills 0 pre)) (hv : v = fillV (fillG 0 pre) n) : IntsAre (us.toArray.push (.int v t)).toList (fills 0 (pre ++ [n])) := by
  rw [List.push_toArray]
  show IntsAre (us ++ [.int v t]) _
  rw [fills_snoc, ← hv]
  clear hv
  revert hi
  generalize fills 0 pre = l
  intro hi
  induction hi with
  | nil => exact .cons _ _ .nil
  | cons k t' r ih => exact .cons _ _ ih
theorem due_bare {pre : List Int} {n M : Int} (h : n.fmod 4 = 3) (h1 : M ∈ [0] ++ fills 0 pre) (h2 : ∀ v ∈ [0] ++ fills 0 pre, v ≤ M) : 1 + M = fillV (fillG 0 pre) n := by
  unfold fillV
  rw [if_pos h, great_is h1 h2]
  omega
theorem due_own {pre : List Int} {n : Int} (h : n.fmod 4 ≠ 3) : n = fillV (fillG 0 pre) n := by
  unfold fillV
  rw [if_neg h]
end
end Mine
namespace Mine
abbrev hashV (w : World) : Int := PyData.keyHash w.params (Str.ofString "value")
theorem bare_none {n : Int} (h : n.fmod 4 = 3) : (none : Option (Int × Tok)).map (·.1) = bareOf n := by unfold bareOf; rw [if_pos h]; rfl
theorem bare_some {n : Int} {t : Tok} (h : n.fmod 4 ≠ 3) : (some (n, t)).map (·.1) = bareOf n := by unfold bareOf; rw [if_neg h]; rfl
section
open LCg
variable {prog : Program} {w : World} {A : Around} {s : Shared} {h₀ : Heap} {L : Addr} {m : Str → Option Value} {env : Env}
theorem rest_suite {elt : Expr} {x : Str} {scope : Scope} {cl : List (Str × Addr)} {S : List (Addr × Obj) → Prop} {Fin : List Value → List (Addr × Obj) → Prop} {vs : List Value} {ns : List Int} (hi : IntsAre vs ns)
    (turn : ∀ i n t ys nx I oI C oC D m₂ h tk (E' : Value → Shared → Prop), ns[i]? = some n → Suite (hashV w) ns i ys nx → NsObj oC m₂ → m₂ x = some (.int n t) → Fr h₀ L h m → News h₀ L h ((I, oI) :: (C, oC) :: (D, lst ys) :: nx) → Off3 I C D nx → ((@Ne Nat I C) ∧ (@Ne Nat I D) ∧ (@Ne Nat C D)) →
      wpAny (model prog w) A (eval elt (compEnvC scope cl C env)) (CompEnd h₀ L m { s with heap := h, toks := tk } I oI C oC D (lst ys) S (fun y nx' => Suite (hashV w) ns (i + 1) (ys ++ [y]) nx')) E' { s with heap := h, toks := tk })
    (fin : ∀ es : List Ent, es.map Ent.num = ns.map bareOf → (adrs es).Nodup → es.length = ns.length → Fin (es.map fun e => Value.ref e.x) (led (hashV w) es)) : CompRest prog w A h₀ L m env elt x scope cl s S (fun i v => vs.toArray[i]? = some v) Fin vs.toArray.size 0 [] [] := by
  refine rest_ints hi (Suite (hashV w) ns) (Suite.start _ _) turn ?_
  rintro ys nx ⟨es, rfl, rfl, hM, hnd⟩
  rw [List.take_length] at hM
  exact fin es hM hnd (by have := congrArg List.length hM; simpa using this)
theorem rest_bools {elt : Expr} {x : Str} {scope : Scope} {cl : List (Str × Addr)} {S : List (Addr × Obj) → Prop} {Fin : List Value → List (Addr × Obj) → Prop} {vs : List Value} {ns : List Int} {nx₀ : List (Addr × Obj)} (f : Int → Bool) (hi : IntsAre vs ns)
    (turn : ∀ n t ys I oI C oC D m₂ h tk (E' : Value → Shared → Prop), NsObj oC m₂ → m₂ x = some (.int n t) → Fr h₀ L h m → News h₀ L h ((I, oI) :: (C, oC) :: (D, lst ys) :: nx₀) → Off3 I C D nx₀ → ((@Ne Nat I C) ∧ (@Ne Nat I D) ∧ (@Ne Nat C D)) →
      wpAny (model prog w) A (eval elt (compEnvC scope cl C env)) (CompEnd h₀ L m { s with heap := h, toks := tk } I oI C oC D (lst ys) S (fun y nx' => nx' = nx₀ ∧ y = Value.bool (f n))) E' { s with heap := h, toks := tk })
    (fin : Fin (ns.map fun n => Value.bool (f n)) nx₀) : CompRest prog w A h₀ L m env elt x scope cl s S (fun i v => vs.toArray[i]? = some v) Fin vs.toArray.size 0 [] nx₀ := by
  refine rest_ints hi (fun i ys nx => nx = nx₀ ∧ ys = (ns.take i).map fun n => Value.bool (f n)) ⟨rfl, rfl⟩ ?_ ?_
  · rintro i n t ys nx I oI C oC D m₂ h tk E' hn ⟨rfl, rfl⟩ hC hx F N off ne
    refine wpAny_mono (turn n t ((ns.take i).map fun n => Value.bool (f n)) I oI C oC D m₂ h tk E' hC hx F N off ne) (fun y s' hq => ?_) fun _ _ e => e
    obtain ⟨h', tk', nx', e', F', N', off', hS', rfl, rfl⟩ := hq
    refine ⟨h', tk', nx', e', F', N', off', hS', rfl, ?_⟩
    rw [take_snoc hn]
    simp
  · rintro ys nx ⟨rfl, rfl⟩
    rw [List.take_length]
    exact fin
variable {I C D : Addr} {oI oC oD : Obj} {s₁ : Shared} {S : List (Addr × Obj) → Prop} {h' : Heap} {tk : Nat} {nx : List (Addr × Obj)}
theorem objs_end {q₁ q₂ : Addr × Obj} {y y' : Value} (F : Fr h₀ L h' m) (N : News h₀ L h' ((I, oI) :: (C, oC) :: (D, oD) :: q₁ :: q₂ :: nx)) (off : Off3 I C D nx) (hS : S nx) (e : y = y') :
    CompEnd h₀ L m s₁ I oI C oC D oD S (fun y nx' => nx' = nx ∧ y = y') y { s₁ with heap := h', toks := tk } :=
  CompEnd.intro F N nx (fun p hp => by
    simp only [List.mem_cons] at hp ⊢
    rcases hp with h | h | h | h <;> simp [h]) off hS ⟨rfl, e⟩
theorem ints_end {y y' : Value} (F : Fr h₀ L h' m) (N : News h₀ L h' ((I, oI) :: (C, oC) :: (D, oD) :: nx)) (off : Off3 I C D nx) (hS : S nx) (e : y = y') :
    CompEnd h₀ L m s₁ I oI C oC D oD S (fun y nx' => nx' = nx ∧ y = y') y { s₁ with heap := h', toks := tk } :=
  CompEnd.intro F N nx (fun p hp => hp) off hS ⟨rfl, e⟩
end
section
variable {prog : Program} {w : World} {A : Around} {E : Value → Shared → Prop} {s : Shared} {a b : Addr} {Q : Value → Shared → Prop} {h₀ : Heap} {L : Addr} {news : List (Addr × Obj)} {es : List Ent} {ns : List Int} {na nb : Nat}
theorem news_list {vs : List Value} (N : News h₀ L s.heap news) (h : (a, W.listOf vs.toArray na) ∈ news) : s.heap.IsList a vs.toArray := ⟨_, (N _ h).1, rfl, _, rfl⟩
theorem forget {h : Heap} (_N : News h₀ L h news) : News h₀ L h [] := fun _ hp => nomatch hp
theorem size_ok {f : Ent → Value} (h : es.map Ent.num = (fills 0 ns).map some) (hl : ¬ ((63 : Nat) : Int) < (ns.length : Int)) : (es.map f).toArray.size ≤ sizeLine := by
  have e := congrArg List.length h
  rw [List.length_map, List.length_map, fills_length] at e
  rw [List.size_toArray, List.length_map, sizeLine_eq, e]
  omega
theorem drop1 {h : Heap} {p : Addr × Obj} (N : News h₀ L h (p :: news)) : News h₀ L h news := fun q hq => N q (.tail _ hq)
theorem ne_marks (N : News h₀ L s.heap news) (ha : (a, W.listOf (es.map fun e => Value.bool e.a.isNone).toArray na) ∈ news) (hb : (b, W.listOf (ns.map fun n => Value.bool (decide (n.fmod 4 = 3))).toArray nb) ∈ news) (hM : es.map Ent.num = ns.map bareOf) (hu : A.units + 64 < cLine) (h : Q (.bool false) s) :
    wpAny (model prog w) A (compareOp .NotEq (.ref a) (.ref b)) Q E s := by
  refine ne_bools (bs := es.map fun e => e.a.isNone) (cs := ns.map fun n => decide (n.fmod 4 = 3)) ?_ ?_ ?_ hu h
  · rw [List.map_map]; exact news_list N ha
  · rw [List.map_map]; exact news_list N hb
  · have e1 : (es.map fun e => e.a.isNone) = (es.map Ent.num).map Option.isNone := by
      rw [List.map_map]
      refine List.map_congr_left fun e _ => ?_
      simp [Ent.num]
    rw [e1, hM, List.map_map]
    refine List.map_congr_left fun n _ => ?_
    simp only [Function.comp, bareOf]
    split <;> simp [*]
theorem vals_ints {ds : List Int} : ∀ {es : List Ent} {ds : List Int}, es.map Ent.num = ds.map some → IntsAre (es.map Ent.v) ds
  | [], [], _ => .nil
  | [], _ :: _, h => by simp at h
  | _ :: _, [], h => by simp at h
  | e :: r, d :: q, h => by
    simp only [List.map_cons, List.cons.injEq] at h
    obtain ⟨h1, h2⟩ := h
    cases ha : e.a with
    | none => simp [Ent.num, ha] at h1
    | some p =>
      obtain ⟨k, t⟩ := p
      have hk : k = d := by simpa [Ent.num, ha] using h1
      subst hk
      have hv : e.v = .int k t := by unfold Ent.v; rw [ha]
      rw [List.map_cons, hv]
      exact .cons _ _ (vals_ints (ds := []) h2)
theorem ne_vals {us : List Value} {ds : List Int} (N : News h₀ L s.heap news) (ha : (a, W.listOf (es.map Ent.v).toArray na) ∈ news) (hb : (b, W.listOf us.toArray nb) ∈ news) (h1 : es.map Ent.num = ds.map some) (h2 : IntsAre us ds) (hu : A.units + 64 < cLine) (h : Q (.bool false) s) :
    wpAny (model prog w) A (compareOp .NotEq (.ref a) (.ref b)) Q E s :=
  ke_ne_ints (news_list N ha) (news_list N hb) (vals_ints (ds := []) h1) h2 hu (by simpa using h)
theorem some_of {e : Ent} {ds : List Int} (h : es.map Ent.num = ds.map some) (he : e ∈ es) : ∃ k t, e.a = some (k, t) := by
  have : e.num ∈ ds.map some := h ▸ List.mem_map_of_mem he
  obtain ⟨k, _, hk⟩ := List.mem_map.mp this
  cases ha : e.a with
  | none => simp [Ent.num, ha] at hk
  | some p => exact ⟨p.1, p.2, rfl⟩
end
end Mine
namespace Mine
abbrev tupO (vs : List Value) (nn : Nat) : Obj := { cls := .type "tuple", data := .seq vs.toArray nn }
/-- a member that stands for a row -/
inductive Chain (H : Int) (old : List (Addr × Obj)) : Addr → List Int → Prop
  | nil {x d e : Addr} {tk : Tok} {nn : Nat} : (x, W.instObj 31 d) ∈ old → (d, valD H tk (.ref e)) ∈ old → (e, tupO [] nn) ∈ old → Chain H old x []
  | cons {x d e y : Addr} {tk t : Tok} {nn : Nat} {n : Int} {row : List Int} : (x, W.instObj 31 d) ∈ old → (d, valD H tk (.ref e)) ∈ old → (e, tupO [.int n t, .ref y] nn) ∈ old → Chain H old y row → Chain H old x (n :: row)
theorem Chain.mono {H : Int} {old old' : List (Addr × Obj)} {x : Addr} {row : List Int} (h : Chain H old x row) (hs : ∀ p ∈ old, p ∈ old') : Chain H old' x row := by
  induction h with
  | nil a b c => exact .nil (hs _ a) (hs _ b) (hs _ c)
  | cons a b c _ ih => exact .cons (hs _ a) (hs _ b) (hs _ c) ih
def RowIn (old : List (Addr × Obj)) (r : Addr) (row : List Int) : Prop := ∃ vs nn, (r, W.listOf (List.toArray vs) nn) ∈ old ∧ IntsAre vs row
/-- a top, its row's list, its row -/
abbrev Trip := Addr × Addr × List Int
def Good (H : Int) (old : List (Addr × Obj)) (p : Trip) : Prop := Chain H old p.1 p.2.2 ∧ RowIn old p.2.1 p.2.2
theorem Good.mono {H : Int} {old old' : List (Addr × Obj)} {p : Trip} (h : Good H old p) (hs : ∀ p ∈ old, p ∈ old') : Good H old' p :=
  ⟨h.1.mono hs, let ⟨vs, nn, a, b⟩ := h.2; ⟨vs, nn, hs _ a, b⟩⟩
def fT (p : Trip) : Value := .ref p.1
def fR (p : Trip) : Value := .ref p.2.1
section
variable {prog : Program} {w : World} {A : Around} {E : Value → Shared → Prop} {s : Shared} {h₀ : Heap} {L : Addr} {news : List (Addr × Obj)} {Q : Value → Shared → Prop} {value slice : PySem.Expr} {l : Addr} {u : Tok} {ps : List Trip} {nn : Nat}
theorem item_last {f : Trip → Value} {q : Trip} (N : News h₀ L s.heap news) (hl : (l, W.listOf (ps.map f).toArray nn) ∈ news) (hq : ps.getLast? = some q) (hsz : ps.length ≤ 1000) (h : Q (f q) s)
    (hs : subscripted slice false (.ref l) (.int (-1) u) = operate [.ref l, .int (-1) u] (getItem (.ref l) (.int (-1) u)) := by with_unfolding_all rfl) :
    wpAny (model prog w) A (subscriptTail value slice (.ref l) (.int (-1) u)) Q E s := by
  have hls := news_list N hl
  have hne : ps ≠ [] := fun e => by rw [e] at hq; cases hq
  have hpos : 0 < ps.length := List.length_pos_iff.mpr hne
  refine tail_any hls.typeIs slot_list_getitem.lookup (wpAny_getItem_list_neg hls (by decide) ?_ (by decide) ?_ h) hs
  · simp only [List.size_toArray, List.length_map]; omega
  · simp only [List.size_toArray, List.length_map, List.getElem?_toArray, List.getElem?_map]
    have e : (-1 + (ps.length : Int)).toNat = ps.length - 1 := by omega
    rw [e, ← List.getLast?_eq_getElem?, hq]
    rfl
theorem item_push {vs : List Value} {v : Value} (N : News h₀ L s.heap news) (hl : (l, W.listOf (vs.toArray.push v) nn) ∈ news) (h : Q v s)
    (hs : subscripted slice false (.ref l) (.int (-1) u) = operate [.ref l, .int (-1) u] (getItem (.ref l) (.int (-1) u)) := by with_unfolding_all rfl) :
    wpAny (model prog w) A (subscriptTail value slice (.ref l) (.int (-1) u)) Q E s := by
  have hls : s.heap.IsList l (vs.toArray.push v) := ⟨_, (N _ hl).1, rfl, _, rfl⟩
  refine tail_any hls.typeIs slot_list_getitem.lookup (wpAny_getItem_list_neg hls (by decide) ?_ (by decide) ?_ h) hs
  · simp only [Array.size_push]; omega
  · simp only [Array.size_push, List.size_toArray]
    have e : (-1 + ((vs.length + 1 : Nat) : Int)).toNat = vs.length := by omega
    rw [e]
    simp
theorem item_mod {f : Trip → Value} {a : Int} {m : Int} (q : Trip) (N : News h₀ L s.heap news) (hl : (l, W.listOf (ps.map f).toArray nn) ∈ news) (hm : m = (ps.length : Int)) (hpos : 0 < ps.length) (hsz : ps.length ≤ 1000) (h : Q (f (ps.getD (a.fmod m).toNat q)) s)
    (hs : subscripted slice false (.ref l) (.int (a.fmod m) u) = operate [.ref l, .int (a.fmod m) u] (getItem (.ref l) (.int (a.fmod m) u)) := by with_unfolding_all rfl) :
    wpAny (model prog w) A (subscriptTail value slice (.ref l) (.int (a.fmod m) u)) Q E s := by
  have hls := news_list N hl
  have hm0 : 0 < m := by omega
  have h1 : 0 ≤ a.fmod m := Int.fmod_nonneg_of_pos a hm0
  have h2 : a.fmod m < m := Int.fmod_lt_of_pos a hm0
  refine tail_any hls.typeIs slot_list_getitem.lookup (wpAny_getItem_list hls h1 (by omega) ?_ h) hs
  have h3 : (a.fmod m).toNat < ps.length := by omega
  simp [List.getElem?_eq_getElem h3, List.getD_eq_getElem?_getD]
theorem getD_mem {a m : Int} {q : Trip} (hm : m = (ps.length : Int)) (hpos : 0 < ps.length) : ps.getD (a.fmod m).toNat q ∈ ps := by
  have hm0 : 0 < m := by omega
  have h1 : 0 ≤ a.fmod m := Int.fmod_nonneg_of_pos a hm0
  have h2 : a.fmod m < m := Int.fmod_lt_of_pos a hm0
  have h3 : (a.fmod m).toNat < ps.length := by omega
  rw [List.getD_eq_getElem?_getD, List.getElem?_eq_getElem h3]
  exact List.getElem_mem _
theorem ne_unit {a b : Addr} {v1 v2 : Value} {n1 n2 : Nat} (N : News h₀ L s.heap news) (ha : (a, tupO [v1, v2] n1) ∈ news) (hb : (b, ({ cls := .type "tuple", data := .seq #[] n2 } : Obj)) ∈ news) (hu : A.units < cLine) (h : Q (.bool true) s) :
    wpAny (model prog w) A (compareOp .NotEq (.ref a) (.ref b)) Q E s := by
  have h1 : s.heap.IsTuple a #[v1, v2] := ⟨_, (N _ ha).1, rfl, _, rfl⟩
  have h2 : s.heap.IsTuple b #[] := ⟨_, (N _ hb).1, rfl, _, rfl⟩
  refine EqBoolInt.of_rcne (SeqAt.RcNeAt.tuples (e := fun _ => true) h1 h2 hu (fun j _ q => absurd q (Nat.not_lt_zero _))) ?_
  exact h
end
end Mine
namespace Mine
section
variable {prog : Program} {w : World} {A : Around} {E : Value → Shared → Prop} {s : Shared} {h₀ : Heap} {L : Addr} {news : List (Addr × Obj)} {Q : Value → Shared → Prop} {l : Addr} {ps : List Trip} {nn : Nat}
theorem len_ps {f : Trip → Value} (N : News h₀ L s.heap news) (hl : (l, W.listOf (ps.map f).toArray nn) ∈ news) (hsz : ps.length ≤ 1000) (h : Q (.int (ps.length : Int) (s.toks + 1)) { s with toks := s.toks + 1 + 1 }) :
    wpAny (model prog w) A (call (.builtin "len") [.ref l]) Q E s := by
  refine len_list (news_list N hl) ?_ ?_
  · simp only [List.size_toArray, List.length_map]; omega
  · simpa using h
end
end Mine
namespace Mine
section
variable {prog : Program} {w : World} {A : Around} {E : Value → Shared → Prop} {s : Shared} {env : Env} {h₀ : Heap} {x : Str} {body : List Stmt} {Q : Flow → Shared → Prop}
/-- the end of a turn: one more top, one more row -/
def TopsPost (h₀ : Heap) (L : Addr) (x : Str) (stored : List Str) (m₀ : Str → Option Value) (H : Int) (t r I : Addr) (oI : Obj) (ps : List Trip) (i : Nat) (old : List (Addr × Obj)) (s₁ : Shared) (Q : Flow → Shared → Prop) (f : Flow) (s₂ : Shared) : Prop :=
  match f with
  | .ret v => Q (.ret v) s₂
  | .brk => Q .next s₂
  | _ => ∃ h' tk m' p' new nt nr, s₂ = { s₁ with heap := h', toks := tk } ∧ Fr h₀ L h' m' ∧ (∀ z, z ≠ x → stored.contains z = false → m' z = m₀ z) ∧
      News h₀ L h' ((I, oI) :: (t, W.listOf ((ps ++ [p']).map fT).toArray nt) :: (r, W.listOf ((ps ++ [p']).map fR).toArray nr) :: (new ++ old)) ∧ Good H (new ++ old) p' ∧ p'.2.2.length ≤ i + 1 ∧ (∀ p ∈ new, p.1 ≠ t ∧ p.1 ≠ r ∧ p.1 ≠ I)
theorem tops_end {L : Addr} {stored : List Str} {m₀ m' : Str → Option Value} {H : Int} {t r I : Addr} {oI : Obj} {ps : List Trip} {i : Nat} {old all new : List (Addr × Obj)} {s₁ : Shared} {h' : Heap} {tk nt nr : Nat} {p' : Trip} {v v' : Value}
    (F : Fr h₀ L h' m') (N : News h₀ L h' all) (ht : (t, W.listOf ((ps.map fT).toArray.push v) nt) ∈ all) (hr : (r, W.listOf ((ps.map fR).toArray.push v') nr) ∈ all) (hI : (I, oI) ∈ all) (hv : v = fT p') (hv' : v' = fR p') (hnew : ∀ p ∈ new, p ∈ all) (hold : ∀ p ∈ old, p ∈ all)
    (hg : Good H (new ++ old) p') (hlen : p'.2.2.length ≤ i + 1) (hne : ∀ p ∈ new, p.1 ≠ t ∧ p.1 ≠ r ∧ p.1 ≠ I) (hz : ∀ z, z ≠ x → stored.contains z = false → m' z = m₀ z) :
    TopsPost h₀ L x stored m₀ H t r I oI ps i old s₁ Q .next { s₁ with heap := h', toks := tk } := by
  refine ⟨h', tk, m', p', new, nt, nr, rfl, F, hz, ?_, hg, hlen, hne⟩
  have e1 : ((ps ++ [p']).map fT).toArray = (ps.map fT).toArray.push v := by rw [hv, List.push_toArray, List.map_append]; rfl
  have e2 : ((ps ++ [p']).map fR).toArray = (ps.map fR).toArray.push v' := by rw [hv', List.push_toArray, List.map_append]; rfl
  rw [e1, e2]
  intro p hp
  refine N p ?_
  simp only [List.mem_cons, List.mem_append] at hp
  rcases hp with rfl | rfl | rfl | h | h
  · exact hI
  · exact ht
  · exact hr
  · exact hnew p h
  · exact hold p h
theorem loop_tops {l t r r0 x0 d0 e0 : Addr} {H : Int} {vs : List Value} {ns : List Int} {m₀ : Str → Option Value} {all : List (Addr × Obj)} {nl nt nr n2 n3 : Nat} {tk0 : Tok} {c : Addr × Obj} (stored : List Str)
    (hh : A.handled = none) (F : Fr h₀ env.locals s.heap m₀) (N : News h₀ env.locals s.heap all) (hi : IntsAre vs ns) (h40 : ns.length ≤ 40)
    (ht : (t, W.listOf [Value.ref x0].toArray nt) ∈ all) (hr : (r, W.listOf [Value.ref r0].toArray nr) ∈ all)
    (hold : ∀ p ∈ [(l, W.listOf vs.toArray nl), (r0, W.listOf [].toArray n2), (x0, W.instObj 31 d0), (d0, valD H tk0 (.ref e0)), (e0, tupO [] n3), c], p ∈ all)
    (htr : @Ne Nat t r) (hot : ∀ p ∈ [(l, W.listOf vs.toArray nl), (r0, W.listOf [].toArray n2), (x0, W.instObj 31 d0), (d0, valD H tk0 (.ref e0)), (e0, tupO [] n3), c], p.1 ≠ t)
    (hor : ∀ p ∈ [(l, W.listOf vs.toArray nl), (r0, W.listOf [].toArray n2), (x0, W.instObj 31 d0), (d0, valD H tk0 (.ref e0)), (e0, tupO [] n3), c], p.1 ≠ r)
    (turnN : ∀ (ps : List Trip) i n tn (u : Str → Option Value) xx d e tk₁ n1 rr n2 h tk (I : Addr) oI old nt nr, ps.length = i + 1 → i < 40 → ps.getLast? = some (xx, rr, []) → (∀ p ∈ ps, Good H old p ∧ p.2.2.length ≤ i) → Chain H old xx [] →
      (∀ p ∈ (xx, W.instObj 31 d) :: (d, valD H tk₁ (.ref e)) :: (e, tupO [] n1) :: (rr, W.listOf [].toArray n2) :: (I, oI) :: old, p.1 ≠ t) → (∀ p ∈ (xx, W.instObj 31 d) :: (d, valD H tk₁ (.ref e)) :: (e, tupO [] n1) :: (rr, W.listOf [].toArray n2) :: (I, oI) :: old, p.1 ≠ r) →
      Fr h₀ env.locals h (fun y => if y = x then some (.int n tn) else if stored.contains y then u y else m₀ y) →
      News h₀ env.locals h ((t, W.listOf (ps.map fT).toArray nt) :: (r, W.listOf (ps.map fR).toArray nr) :: (xx, W.instObj 31 d) :: (d, valD H tk₁ (.ref e)) :: (e, tupO [] n1) :: (rr, W.listOf [].toArray n2) :: (I, oI) :: old) →
      wpAny (model prog w) A (execs body env) (TopsPost h₀ env.locals x stored m₀ H t r I oI ps i old { s with heap := h, toks := tk } Q) E { s with heap := h, toks := tk })
    (turnC : ∀ (ps : List Trip) i n tn (u : Str → Option Value) xx d e tk₁ n1 rr n2 k kt y (row : List Int) v0 vs' h tk (I : Addr) oI old nt nr, ps.length = i + 1 → i < 40 → ps.getLast? = some (xx, rr, k :: row) → (∀ p ∈ ps, Good H old p ∧ p.2.2.length ≤ i) → Chain H old xx (k :: row) → Chain H old y row → IntsAre (v0 :: vs') (k :: row) → row.length < i →
      (∀ p ∈ (xx, W.instObj 31 d) :: (d, valD H tk₁ (.ref e)) :: (e, tupO [.int k kt, .ref y] n1) :: (rr, W.listOf (v0 :: vs').toArray n2) :: (I, oI) :: old, p.1 ≠ t) → (∀ p ∈ (xx, W.instObj 31 d) :: (d, valD H tk₁ (.ref e)) :: (e, tupO [.int k kt, .ref y] n1) :: (rr, W.listOf (v0 :: vs').toArray n2) :: (I, oI) :: old, p.1 ≠ r) →
      Fr h₀ env.locals h (fun y => if y = x then some (.int n tn) else if stored.contains y then u y else m₀ y) →
      News h₀ env.locals h ((t, W.listOf (ps.map fT).toArray nt) :: (r, W.listOf (ps.map fR).toArray nr) :: (xx, W.instObj 31 d) :: (d, valD H tk₁ (.ref e)) :: (e, tupO [.int k kt, .ref y] n1) :: (rr, W.listOf (v0 :: vs').toArray n2) :: (I, oI) :: old) →
      wpAny (model prog w) A (execs body env) (TopsPost h₀ env.locals x stored m₀ H t r I oI ps i old { s with heap := h, toks := tk } Q) E { s with heap := h, toks := tk })
    (done : ∀ (ps : List Trip) (u : Str → Option Value) h tk old nt nr, ps.length ≤ 41 → (∀ p ∈ ps, Good H old p ∧ p.2.2.length ≤ ns.length) → (∀ p ∈ old, p.1 ≠ t) → (∀ p ∈ old, p.1 ≠ r) → Fr h₀ env.locals h (fun y => if y = x then u y else if stored.contains y then u y else m₀ y) →
      News h₀ env.locals h (c :: (t, W.listOf (ps.map fT).toArray nt) :: (r, W.listOf (ps.map fR).toArray nr) :: old) → Q .next { s with heap := h, toks := tk }) :
    wpAny (model prog w) A (pyIter (.ref l)) (fun it s₂ => LoopAtV prog w A h₀ env x body Q E it s₂) E s := by
  generalize ho₀ : [(l, W.listOf vs.toArray nl), (r0, W.listOf [].toArray n2), (x0, W.instObj 31 d0), (d0, valD H tk0 (.ref e0)), (e0, tupO [] n3), c] = old₀ at hold hot hor
  have hlen := hi.length
  have same : ∀ {m₁ : Str → Option Value}, (∀ z, z ≠ x → stored.contains z = false → m₁ z = m₀ z) → ∀ y, y ≠ x → (if stored.contains y then m₁ y else m₀ y) = m₁ y := by
    intro m₁ hm y hy
    cases h3 : stored.contains y with
    | true => simp
    | false => simp only [Bool.false_eq_true, if_false]; exact (hm y hy h3).symm
  have hl0 : (l, W.listOf vs.toArray nl) ∈ old₀ := by rw [← ho₀]; exact List.mem_cons_self
  have hc0 : c ∈ old₀ := by rw [← ho₀]; simp
  refine loop_grow (news := (t, W.listOf ([(x0, r0, [])] |>.map fT).toArray nt) :: (r, W.listOf ([(x0, r0, [])] |>.map fR).toArray nr) :: old₀) (fun i m nx => (∀ z, z ≠ x → stored.contains z = false → m z = m₀ z) ∧ ∃ (ps : List Trip) (old : List (Addr × Obj)) (nt : Nat) (nr : Nat), nx = (t, W.listOf (ps.map fT).toArray nt) :: (r, W.listOf (ps.map fR).toArray nr) :: old ∧ ps.length = i + 1 ∧ (∀ p ∈ ps, Good H old p ∧ p.2.2.length ≤ i) ∧ (∀ p ∈ old, p.1 ≠ t) ∧ (∀ p ∈ old, p.1 ≠ r) ∧ (∀ p ∈ old₀, p ∈ old))
    hh (List.mem_cons_of_mem _ (List.mem_cons_of_mem _ hl0)) F ?_ ?_ ?_ ?_
  · intro p hp
    refine N p ?_
    simp only [List.mem_cons] at hp
    rcases hp with rfl | rfl | h
    · exact ht
    · exact hr
    · exact hold p h
  · refine ⟨fun _ _ _ => rfl, [(x0, r0, [])], old₀, nt, nr, rfl, rfl, ?_, hot, hor, fun _ h => h⟩
    intro p hp
    rw [List.mem_singleton.mp hp]
    refine ⟨⟨.nil (d := d0) (e := e0) (tk := tk0) (nn := n3) ?_ ?_ ?_, [], n2, ?_, .nil⟩, Nat.le_refl _⟩ <;> (rw [← ho₀]; simp)
  · rintro i v m₁ nx h tk oI hv ⟨hz, ps, old, nt', nr', rfl, hpl, hG, hnt, hnr, hs0⟩ _ hoff F₁ N₁
    obtain ⟨n, tn, rfl, hn⟩ := IntsAre.at hi i v hv
    have hil : i < ns.length := (List.getElem?_eq_some_iff.mp hn).1
    have F₂ : Fr h₀ env.locals h (fun y => if y = x then some (.int n tn) else if stored.contains y then m₁ y else m₀ y) := by
      have e : (fun y => if y = x then some (Value.int n tn) else if stored.contains y then m₁ y else m₀ y) = fun y => if y = x then some (.int n tn) else m₁ y := by
        funext y
        by_cases hy : y = x
        · rw [if_pos hy, if_pos hy]
        · rw [if_neg hy, if_neg hy]; exact same hz y hy
      rw [e]; exact F₁
    have hne : ps ≠ [] := fun e => by rw [e] at hpl; cases hpl
    obtain ⟨q, hq⟩ : ∃ q, ps.getLast? = some q := ⟨_, List.getLast?_eq_some_getLast hne⟩
    obtain ⟨xx, rr, row⟩ := q
    have hqm : (xx, rr, row) ∈ ps := List.mem_of_getLast? hq
    obtain ⟨⟨hC, ws, n2', hR, hW⟩, hrl⟩ := hG _ hqm
    have hIt : s.heap.objs.size ≠ t := Ne.symm (hoff (t, _) List.mem_cons_self)
    have hIr : s.heap.objs.size ≠ r := Ne.symm (hoff (r, _) (List.mem_cons_of_mem _ List.mem_cons_self))
    have hIo : ∀ p ∈ old, p.1 ≠ s.heap.objs.size := fun p hp => hoff p (List.mem_cons_of_mem _ (List.mem_cons_of_mem _ hp))
    have ahead : ∀ {q1 q2 q3 q4 : Addr × Obj}, q1 ∈ old → q2 ∈ old → q3 ∈ old → q4 ∈ old → ∀ a, s.heap.objs.size ≠ a → (∀ p ∈ old, p.1 ≠ a) → ∀ p ∈ q1 :: q2 :: q3 :: q4 :: (s.heap.objs.size, oI) :: old, p.1 ≠ a := by
      intro q1 q2 q3 q4 h1 h2 h3 h4 a ha ho p hp
      simp only [List.mem_cons] at hp
      rcases hp with rfl | rfl | rfl | rfl | rfl | hp
      · exact ho _ h1
      · exact ho _ h2
      · exact ho _ h3
      · exact ho _ h4
      · exact ha
      · exact ho _ hp
    have aheadN : ∀ {q1 q2 q3 q4 : Addr × Obj}, q1 ∈ old → q2 ∈ old → q3 ∈ old → q4 ∈ old → News h₀ env.locals h ((t, W.listOf (ps.map fT).toArray nt') :: (r, W.listOf (ps.map fR).toArray nr') :: q1 :: q2 :: q3 :: q4 :: (s.heap.objs.size, oI) :: old) := by
      intro q1 q2 q3 q4 h1 h2 h3 h4 p hp
      refine N₁ p ?_
      simp only [List.mem_cons] at hp
      simp only [List.mem_cons, List.mem_append, List.not_mem_nil, or_false]
      rcases hp with rfl | rfl | rfl | rfl | rfl | rfl | rfl | hp
      · simp
      · simp
      · simp [h1]
      · simp [h2]
      · simp [h3]
      · simp [h4]
      · simp
      · simp [hp]
    have fin : ∀ s₂, (∃ h' tk' m' p' new nt nr, s₂ = { s with heap := h', toks := tk' } ∧ Fr h₀ env.locals h' m' ∧ (∀ z, z ≠ x → stored.contains z = false → m' z = m₀ z) ∧
      News h₀ env.locals h' ((s.heap.objs.size, oI) :: (t, W.listOf ((ps ++ [p']).map fT).toArray nt) :: (r, W.listOf ((ps ++ [p']).map fR).toArray nr) :: (new ++ old)) ∧ Good H (new ++ old) p' ∧ p'.2.2.length ≤ i + 1 ∧ (∀ p ∈ new, p.1 ≠ t ∧ p.1 ≠ r ∧ p.1 ≠ s.heap.objs.size)) →
        GrowEnd h₀ env.locals l (W.listOf vs.toArray nl) s.heap.objs.size oI (fun m nx => (∀ z, z ≠ x → stored.contains z = false → m z = m₀ z) ∧ ∃ (ps : List Trip) (old : List (Addr × Obj)) (nt : Nat) (nr : Nat), nx = (t, W.listOf (ps.map fT).toArray nt) :: (r, W.listOf (ps.map fR).toArray nr) :: old ∧ ps.length = i + 1 + 1 ∧ (∀ p ∈ ps, Good H old p ∧ p.2.2.length ≤ i + 1) ∧ (∀ p ∈ old, p.1 ≠ t) ∧ (∀ p ∈ old, p.1 ≠ r) ∧ (∀ p ∈ old₀, p ∈ old)) { s with heap := h, toks := tk } s₂ := by
      rintro s₂ ⟨h', tk', m', p', new, nt, nr, rfl, F', hz', N', hg', hl', hne'⟩
      refine ⟨h', tk', m', _, rfl, F', N', ?_, ?_, hz', ps ++ [p'], new ++ old, nt, nr, rfl, ?_, ?_, ?_, ?_, ?_⟩
      · exact List.mem_cons_of_mem _ (List.mem_cons_of_mem _ (List.mem_append.mpr (.inr (hs0 _ hl0))))
      · intro p hp
        simp only [List.mem_cons, List.mem_append] at hp
        rcases hp with rfl | rfl | hp | hp
        · exact Ne.symm hIt
        · exact Ne.symm hIr
        · exact (hne' p hp).2.2
        · exact hIo p hp
      · rw [List.length_append, hpl]; rfl
      · intro p hp
        rcases List.mem_append.mp hp with hp | hp
        · exact ⟨(hG p hp).1.mono fun q hq => List.mem_append.mpr (.inr hq), Nat.le_succ_of_le (hG p hp).2⟩
        · rw [List.mem_singleton.mp hp]; exact ⟨hg', hl'⟩
      · intro p hp
        rcases List.mem_append.mp hp with hp | hp
        · exact (hne' p hp).1
        · exact hnt p hp
      · intro p hp
        rcases List.mem_append.mp hp with hp | hp
        · exact (hne' p hp).2.1
        · exact hnr p hp
      · exact fun p hp => List.mem_append.mpr (.inr (hs0 p hp))
    have hC' := hC
    cases hC with
    | @nil _ d e tk₁ n1 a1 a2 a3 =>
      cases hW
      refine wpAny_mono (turnN ps i n tn m₁ xx d e tk₁ n1 rr n2' h tk s.heap.objs.size oI old nt' nr' hpl (by omega) hq hG hC' (ahead a1 a2 a3 hR t hIt hnt) (ahead a1 a2 a3 hR r hIr hnr) F₂ (aheadN a1 a2 a3 hR)) (fun f s₂ p => ?_) fun _ _ e => e
      cases f with
      | ret v => exact p
      | brk => exact p
      | next => exact fin _ p
      | cont => exact fin _ p
    | @cons _ d e y tk₁ kt n1 k row' a1 a2 a3 hCy =>
      cases hW with
      | cons _ vt hW' =>
        refine wpAny_mono (turnC ps i n tn m₁ xx d e tk₁ n1 rr n2' k kt y row' _ _ h tk s.heap.objs.size oI old nt' nr' hpl (by omega) hq hG hC' hCy (.cons _ _ hW') (by have := hrl; simp only [List.length_cons] at this; omega) (ahead a1 a2 a3 hR t hIt hnt) (ahead a1 a2 a3 hR r hIr hnr) F₂ (aheadN a1 a2 a3 hR)) (fun f s₂ p => ?_) fun _ _ e => e
        cases f with
        | ret v => exact p
        | brk => exact p
        | next => exact fin _ p
        | cont => exact fin _ p
  · rintro m₁ nx h tk ⟨hz, ps, old, nt', nr', rfl, hpl, hG, hnt, hnr, hs0⟩ _ F₁ N₁
    refine done ps m₁ h tk old nt' nr' (by omega) (fun p hp => ⟨(hG p hp).1, by have := (hG p hp).2; omega⟩) hnt hnr ?_ ?_
    · have e : (fun y => if y = x then m₁ y else if stored.contains y then m₁ y else m₀ y) = m₁ := by
        funext y
        by_cases hy : y = x
        · rw [if_pos hy]
        · rw [if_neg hy]; exact same hz y hy
      rw [e]; exact F₁
    · intro p hp
      rcases List.mem_cons.mp hp with rfl | hp
      · exact N₁ _ (List.mem_cons_of_mem _ (List.mem_cons_of_mem _ (hs0 _ hc0)))
      · exact N₁ p hp
end
end Mine
namespace Mine
theorem not_stored {stored : List Str} {z a : Str} (h : stored.contains z = false) (hs : stored.contains a = true) : z ≠ a := by
  intro e
  rw [e, hs] at h
  cases h
theorem pushT {ps : List Trip} (p : Trip) : (ps.map fT).toArray.push (.ref p.1) = ((ps ++ [p]).map fT).toArray := by rw [List.push_toArray, List.map_append]; rfl
theorem pushR {ps : List Trip} (p : Trip) : (ps.map fR).toArray.push (.ref p.2.1) = ((ps ++ [p]).map fR).toArray := by rw [List.push_toArray, List.map_append]; rfl
theorem appT {ps : List Trip} (p : Trip) : (ps.map fT ++ [Value.ref p.1]).toArray = ((ps ++ [p]).map fT).toArray := by rw [List.map_append]; rfl
theorem appR {ps : List Trip} (p : Trip) : (ps.map fR ++ [Value.ref p.2.1]).toArray = ((ps ++ [p]).map fR).toArray := by rw [List.map_append]; rfl
section
variable {prog : Program} {w : World} {A : Around} {E : Value → Shared → Prop} {s : Shared} {h₀ : Heap} {L : Addr} {news : List (Addr × Obj)} {Q : Value → Shared → Prop} {value slice : PySem.Expr} {l : Addr} {u : Tok} {nn : Nat}
theorem item_app {vs : List Value} {v : Value} (N : News h₀ L s.heap news) (hl : (l, W.listOf (vs ++ [v]).toArray nn) ∈ news) (h : Q v s)
    (hs : subscripted slice false (.ref l) (.int (-1) u) = operate [Value.ref l, .int (-1) u] (getItem (.ref l) (.int (-1) u)) := by with_unfolding_all rfl) :
    wpAny (model prog w) A (subscriptTail value slice (.ref l) (.int (-1) u)) Q E s :=
  item_push N (by rw [List.push_toArray]; exact hl) h hs
end
section
variable {h₀ : Heap} {x : Str} {Q : Flow → Shared → Prop} {L : Addr} {stored : List Str} {m₀ m' : Str → Option Value} {H : Int} {t r I : Addr} {oI : Obj} {ps : List Trip} {i : Nat} {old all : List (Addr × Obj)} {s₁ : Shared} {h' : Heap} {tk nt nr : Nat} {aT aR : Array Value}
theorem tops_end' {new : List (Addr × Obj)} {p' : Trip} (F : Fr h₀ L h' m') (N : News h₀ L h' all) (ht : (t, W.listOf aT nt) ∈ all) (hr : (r, W.listOf aR nr) ∈ all) (hI : (I, oI) ∈ all) (eT : aT = ((ps ++ [p']).map fT).toArray) (eR : aR = ((ps ++ [p']).map fR).toArray) (hnew : ∀ p ∈ new, p ∈ all) (hold : ∀ p ∈ old, p ∈ all)
    (hg : Good H (new ++ old) p') (hlen : p'.2.2.length ≤ i + 1) (hne : ∀ p ∈ new, p.1 ≠ t ∧ p.1 ≠ r ∧ p.1 ≠ I) (hz : ∀ z, z ≠ x → stored.contains z = false → m' z = m₀ z) :
    TopsPost h₀ L x stored m₀ H t r I oI ps i old s₁ Q .next { s₁ with heap := h', toks := tk } := by
  refine ⟨h', tk, m', p', new, nt, nr, rfl, F, hz, ?_, hg, hlen, hne⟩
  rw [← eT, ← eR]
  intro p hp
  refine N p ?_
  simp only [List.mem_cons, List.mem_append] at hp
  rcases hp with rfl | rfl | rfl | h | h
  · exact hI
  · exact ht
  · exact hr
  · exact hnew p h
  · exact hold p h
theorem endA {a : Int} {q : Trip} (F : Fr h₀ L h' m') (N : News h₀ L h' all) (hp : ps.length = i + 1) (hG : ∀ p ∈ ps, Good H old p ∧ p.2.2.length ≤ i) (ht : (t, W.listOf aT nt) ∈ all) (hr : (r, W.listOf aR nr) ∈ all) (hI : (I, oI) ∈ all)
    (eT : aT = (ps.map fT).toArray.push (.ref (ps.getD (a.fmod (ps.length : Int)).toNat q).1)) (eR : aR = (ps.map fR).toArray.push (.ref (ps.getD (a.fmod (ps.length : Int)).toNat q).2.1)) (hold : ∀ p ∈ old, p ∈ all) (hz : ∀ z, z ≠ x → stored.contains z = false → m' z = m₀ z) :
    TopsPost h₀ L x stored m₀ H t r I oI ps i old s₁ Q .next { s₁ with heap := h', toks := tk } := by
  have hm := getD_mem (ps := ps) (a := a) (q := q) rfl (by omega)
  exact tops_end' (new := []) F N ht hr hI (eT.trans (pushT _)) (eR.trans (pushR _)) (fun _ h => nomatch h) hold (hG _ hm).1 (Nat.le_succ_of_le (hG _ hm).2) (fun _ h => nomatch h) hz
theorem endB {y D : Addr} {row : List Int} {ws : List Value} {nD : Nat} (F : Fr h₀ L h' m') (N : News h₀ L h' all) (hC : Chain H old y row) (hi : IntsAre ws row) (hD : (D, W.listOf ws.toArray nD) ∈ all) (hlen : row.length < i) (ht : (t, W.listOf aT nt) ∈ all) (hr : (r, W.listOf aR nr) ∈ all) (hI : (I, oI) ∈ all)
    (eT : aT = (ps.map fT).toArray.push (.ref y)) (eR : aR = (ps.map fR).toArray.push (.ref D)) (hold : ∀ p ∈ old, p ∈ all) (h1 : @Ne Nat D t ∧ @Ne Nat D r ∧ @Ne Nat D I) (hz : ∀ z, z ≠ x → stored.contains z = false → m' z = m₀ z) :
    TopsPost h₀ L x stored m₀ H t r I oI ps i old s₁ Q .next { s₁ with heap := h', toks := tk } := by
  refine tops_end' (p' := (y, D, row)) (new := [(D, W.listOf ws.toArray nD)]) F N ht hr hI (eT.trans (pushT (y, D, row))) (eR.trans (pushR (y, D, row))) ?_ hold ⟨hC.mono fun p hp => List.mem_cons_of_mem _ hp, ws, nD, List.mem_cons_self, hi⟩ (by show row.length ≤ i + 1; omega) ?_ hz
  · intro p hp; rw [List.mem_singleton.mp hp]; exact hD
  · intro p hp; rw [List.mem_singleton.mp hp]; exact h1
theorem endC {y x' d' e' D : Addr} {row : List Int} {ws : List Value} {nD ne : Nat} {n : Int} {tn tv : Tok} (F : Fr h₀ L h' m') (N : News h₀ L h' all) (hx : (x', W.instObj 31 d') ∈ all) (hd : (d', valD H tv (.ref e')) ∈ all) (he : (e', tupO [.int n tn, .ref y] ne) ∈ all) (hC : Chain H old y row) (hD : (D, W.listOf ws.toArray nD) ∈ all) (hi : IntsAre ws (n :: row)) (hlen : row.length ≤ i)
    (ht : (t, W.listOf aT nt) ∈ all) (hr : (r, W.listOf aR nr) ∈ all) (hI : (I, oI) ∈ all)
    (eT : aT = (ps.map fT ++ [Value.ref x']).toArray) (eR : aR = (ps.map fR ++ [Value.ref D]).toArray) (hold : ∀ p ∈ old, p ∈ all) (h1 : @Ne Nat D t ∧ @Ne Nat D r ∧ @Ne Nat D I) (h2 : @Ne Nat x' t ∧ @Ne Nat x' r ∧ @Ne Nat x' I) (h3 : @Ne Nat d' t ∧ @Ne Nat d' r ∧ @Ne Nat d' I) (h4 : @Ne Nat e' t ∧ @Ne Nat e' r ∧ @Ne Nat e' I) (hz : ∀ z, z ≠ x → stored.contains z = false → m' z = m₀ z) :
    TopsPost h₀ L x stored m₀ H t r I oI ps i old s₁ Q .next { s₁ with heap := h', toks := tk } := by
  refine tops_end' (p' := (x', D, n :: row)) (new := [(D, W.listOf ws.toArray nD), (x', W.instObj 31 d'), (d', valD H tv (.ref e')), (e', tupO [.int n tn, .ref y] ne)]) F N ht hr hI (eT.trans (appT (x', D, n :: row))) (eR.trans (appR (x', D, n :: row))) ?_ hold ⟨.cons (d := d') (e := e') (y := y) (tk := tv) (t := tn) (nn := ne) ?_ ?_ ?_ (hC.mono fun p hp => List.mem_append.mpr (.inr hp)), ws, nD, List.mem_cons_self, hi⟩ (by show (n :: row).length ≤ i + 1; simp only [List.length_cons]; omega) ?_ hz
  · intro p hp
    simp only [List.mem_cons, List.not_mem_nil, or_false] at hp
    rcases hp with rfl | rfl | rfl | rfl
    · exact hD
    · exact hx
    · exact hd
    · exact he
  · simp
  · simp
  · simp
  · intro p hp
    simp only [List.mem_cons, List.not_mem_nil, or_false] at hp
    rcases hp with rfl | rfl | rfl | rfl
    · exact h1
    · exact h2
    · exact h3
    · exact h4
end
end Mine
namespace Mine
theorem ints_snoc {us : List Value} {l : List Int} {k : Int} {t : Tok} (hi : IntsAre us l) : IntsAre (us ++ [.int k t]) (l ++ [k]) := by
  induction hi with
  | nil => exact .cons _ _ .nil
  | cons k t' r ih => exact .cons _ _ ih
section
variable {prog : Program} {w : World} {A : Around} {E : Value → Shared → Prop} {s : Shared} {env : Env} {h₀ : Heap} {L : Addr} {Q : Flow → Shared → Prop}
/-- the end of a turn of the reading loop -/
def ReadPost (h₀ : Heap) (L : Addr) (m₀ : Str → Option Value) (rl : Addr) (old : List (Addr × Obj)) (y : Addr) (ds : List Int) (s₁ : Shared) (f : Flow) (s₂ : Shared) : Prop :=
  f = .next ∧ ∃ h' tk m' arr nn, s₂ = { s₁ with heap := h', toks := tk } ∧ Fr h₀ L h' m' ∧ m' (Str.ofString "top") = some (.ref y) ∧ (∀ z, z ≠ Str.ofString "top" → m' z = m₀ z) ∧ IntsAre (Array.toList arr) ds ∧ News h₀ L h' ((rl, W.listOf arr nn) :: old)
theorem ReadPost.next {m₀ m' : Str → Option Value} {rl y : Addr} {old all : List (Addr × Obj)} {ds : List Int} {arr : Array Value} {nn : Nat} {s₁ : Shared} {h' : Heap} {tk : Nat}
    (F : Fr h₀ L h' m') (N : News h₀ L h' all) (hr : (rl, W.listOf arr nn) ∈ all) (hold : ∀ p ∈ old, p ∈ all) (hi : IntsAre arr.toList ds) (ht : m' (Str.ofString "top") = some (.ref y)) (hz : ∀ z, z ≠ Str.ofString "top" → m' z = m₀ z) :
    ReadPost h₀ L m₀ rl old y ds s₁ .next { s₁ with heap := h', toks := tk } :=
  ⟨rfl, h', tk, m', arr, nn, rfl, F, ht, hz, hi, fun p hp => by
    rcases List.mem_cons.mp hp with rfl | hp
    · exact N _ hr
    · exact N p (hold p hp)⟩
theorem while_read {test : Expr} {body : List Stmt} {pos : Pos} {m₀ : Str → Option Value} {x₀ rl : Addr} {H : Int} {row : List Int} {old : List (Addr × Obj)} {nn : Nat}
    (F : Fr h₀ L s.heap m₀) (hm : m₀ (Str.ofString "top") = some (.ref x₀)) (N : News h₀ L s.heap ((rl, W.listOf #[] nn) :: old)) (hC : Chain H old x₀ row) (hold : ∀ p ∈ old, p.1 ≠ rl)
    (turnN : ∀ x d e tk₁ n1 us n2 h tk, IntsAre us row → us.length = row.length → Fr h₀ L h (fun z => if z = Str.ofString "top" then some (.ref x) else m₀ z) → News h₀ L h ((rl, W.listOf us.toArray n2) :: (x, W.instObj 31 d) :: (d, valD H tk₁ (.ref e)) :: (e, tupO [] n1) :: old) →
      wpAny (model prog w) A (isTrue test env (eval test env)) (fun b s₂ => if b = true then False else Q .next s₂) (fun _ _ => False) { s with heap := h, toks := tk })
    (turnC : ∀ x d e tk₁ n1 k kt y us (ds : List Int) n2 h tk, IntsAre us ds → us.length < row.length → (∀ p ∈ (x, W.instObj 31 d) :: (d, valD H tk₁ (.ref e)) :: (e, tupO [.int k kt, .ref y] n1) :: old, p.1 ≠ rl) → Fr h₀ L h (fun z => if z = Str.ofString "top" then some (.ref x) else m₀ z) → News h₀ L h ((rl, W.listOf us.toArray n2) :: (x, W.instObj 31 d) :: (d, valD H tk₁ (.ref e)) :: (e, tupO [.int k kt, .ref y] n1) :: old) →
      wpAny (model prog w) A (isTrue test env (eval test env)) (fun b s₂ => if b = true then wpAny (model prog w) A (execs body env) (ReadPost h₀ L m₀ rl old y (ds ++ [k]) s) (fun _ _ => False) s₂ else False) (fun _ _ => False) { s with heap := h, toks := tk }) :
    wpAny (model prog w) A (exec (.While test body [] pos) env) Q E s := by
  refine wpAny_noRaise ?_
  refine While_inv (fun n m nx => ∃ x ds us rest nn, nx = (rl, W.listOf (List.toArray us) nn) :: old ∧ m (Str.ofString "top") = some (.ref x) ∧ (∀ z, z ≠ Str.ofString "top" → m z = m₀ z) ∧ Chain H old x rest ∧ row = ds ++ rest ∧ IntsAre us ds ∧ n = rest.length) (n₀ := row.length) F N ⟨x₀, [], [], row, nn, rfl, hm, fun _ _ => rfl, hC, rfl, .nil, rfl⟩ ?_ PassesOwn.never
  rintro n m₁ nx h₁ tk₁ F₁ N₁ ⟨x, ds, us, rest, nn', rfl, ht, hz, hCx, hrow, hus, rfl⟩
  have eF : (fun z => if z = Str.ofString "top" then some (.ref x) else m₀ z) = m₁ := by
    funext z
    by_cases hz1 : z = Str.ofString "top"
    · rw [if_pos hz1, hz1, ht]
    · rw [if_neg hz1, hz z hz1]
  have F₂ : Fr h₀ L h₁ (fun z => if z = Str.ofString "top" then some (.ref x) else m₀ z) := by rw [eF]; exact F₁
  have hul : us.length = ds.length := hus.length
  cases hCx with
  | @nil _ d e tk n1 a1 a2 a3 =>
    rw [List.append_nil] at hrow
    refine wpAny_mono (turnN x d e tk n1 us nn' h₁ tk₁ (hrow ▸ hus) (by rw [hul, hrow]) F₂ ?_) (fun b s₂ hb => ?_) fun _ _ e => e
    · intro p hp
      simp only [List.mem_cons] at hp
      rcases hp with rfl | rfl | rfl | rfl | hp
      · exact N₁ _ List.mem_cons_self
      · exact N₁ _ (List.mem_cons_of_mem _ a1)
      · exact N₁ _ (List.mem_cons_of_mem _ a2)
      · exact N₁ _ (List.mem_cons_of_mem _ a3)
      · exact N₁ p (List.mem_cons_of_mem _ hp)
    · cases b with
      | true => simp only [if_true] at hb
      | false => simpa using hb
  | @cons _ d e y tk kt n1 k row' a1 a2 a3 hCy =>
    refine wpAny_mono (turnC x d e tk n1 k kt y us ds nn' h₁ tk₁ hus (by rw [hul, hrow, List.length_append, List.length_cons]; omega) ?_ F₂ ?_) (fun b s₂ hb => ?_) fun _ _ e => e
    · intro p hp
      simp only [List.mem_cons] at hp
      rcases hp with rfl | rfl | rfl | hp
      · exact hold _ a1
      · exact hold _ a2
      · exact hold _ a3
      · exact hold p hp
    · intro p hp
      simp only [List.mem_cons] at hp
      rcases hp with rfl | rfl | rfl | rfl | hp
      · exact N₁ _ List.mem_cons_self
      · exact N₁ _ (List.mem_cons_of_mem _ a1)
      · exact N₁ _ (List.mem_cons_of_mem _ a2)
      · exact N₁ _ (List.mem_cons_of_mem _ a3)
      · exact N₁ p (List.mem_cons_of_mem _ hp)
    · cases b with
      | false => simp only [Bool.false_eq_true, if_false] at hb
      | true =>
        simp only [if_true] at hb ⊢
        refine wpAny_mono hb (fun f s₃ hp => ?_) fun _ _ e => e
        obtain ⟨rfl, h', tk', m', ⟨us'⟩, nn2, rfl, F', ht', hz', hi', N'⟩ := hp
        exact ⟨rfl, h', tk', m', _, row'.length, rfl, F', N', by simp, y, ds ++ [k], us', row', nn2, rfl, ht', hz', hCy, by rw [hrow, List.append_assoc]; rfl, hi', rfl⟩
end
/-- the rows that were read -/
inductive RowsIn (nx : List (Addr × Obj)) : List Value → List (List Int) → Prop
  | nil : RowsIn nx [] []
  | cons {a : Addr} {row : List Int} {ys : List Value} {ds : List (List Int)} : RowIn nx a row → RowsIn nx ys ds → RowsIn nx (.ref a :: ys) (row :: ds)
theorem RowsIn.mono {nx nx' : List (Addr × Obj)} {ys : List Value} {ds : List (List Int)} (h : RowsIn nx ys ds) (hs : ∀ p ∈ nx, p ∈ nx') : RowsIn nx' ys ds := by
  induction h with
  | nil => exact .nil
  | cons a _ ih => exact .cons (let ⟨vs, nn, b, c⟩ := a; ⟨vs, nn, hs _ b, c⟩) ih
theorem RowsIn.snoc {nx : List (Addr × Obj)} {ys : List Value} {ds : List (List Int)} {a : Addr} {row : List Int} (h : RowsIn nx ys ds) (ha : RowIn nx a row) : RowsIn nx (ys ++ [.ref a]) (ds ++ [row]) := by
  induction h with
  | nil => exact .cons ha .nil
  | cons b _ ih => exact .cons b ih
section
open LCg
variable {prog : Program} {w : World} {A : Around} {s : Shared} {h₀ : Heap} {L : Addr} {m : Str → Option Value} {env : Env}
theorem rest_read {elt : Expr} {x : Str} {scope : Scope} {cl : List (Str × Addr)} {S : List (Addr × Obj) → Prop} {Fin : List Value → List (Addr × Obj) → Prop} {H : Int} {ps : List Trip} {n : Nat} {c : Addr × Obj} {old : List (Addr × Obj)}
    (hG : ∀ p ∈ ps, Chain H old p.1 p.2.2 ∧ p.2.2.length ≤ n)
    (turn : ∀ (p : Trip) ys tail I oI C oC D m₂ h tk (E' : Value → Shared → Prop), p ∈ ps → Chain H tail p.1 p.2.2 → p.2.2.length ≤ n → (∀ q ∈ c :: old, q ∈ c :: tail) → NsObj oC m₂ → m₂ x = some (fT p) → Fr h₀ L h m → News h₀ L h ((I, oI) :: (C, oC) :: (D, lst ys) :: c :: tail) → Off3 I C D (c :: tail) → ((@Ne Nat I C) ∧ (@Ne Nat I D) ∧ (@Ne Nat C D)) →
      wpAny (model prog w) A (eval elt (compEnvC scope cl C env)) (CompEnd h₀ L m { s with heap := h, toks := tk } I oI C oC D (lst ys) S (fun y nx' => ∃ a us nn, y = .ref a ∧ IntsAre us p.2.2 ∧ nx' = c :: (a, W.listOf (List.toArray us) nn) :: tail)) E' { s with heap := h, toks := tk })
    (fin : ∀ ys nx, (∀ q ∈ c :: old, q ∈ nx) → RowsIn nx ys (ps.map (·.2.2)) → Fin ys nx) : CompRest prog w A h₀ L m env elt x scope cl s S (fun i v => (ps.map fT).toArray[i]? = some v) Fin (ps.map fT).toArray.size 0 [] (c :: old) := by
  refine rest_grow (fun i ys nx => (∃ tail, nx = c :: tail) ∧ (∀ q ∈ c :: old, q ∈ nx) ∧ (∀ q ∈ old, q ∈ nx.tail) ∧ RowsIn nx ys ((ps.take i).map (·.2.2))) ?_ ?_ _ _ _ _ (Nat.zero_add _) ⟨⟨_, rfl⟩, fun _ h => h, fun _ h => h, .nil⟩
  · rintro i v ys nx I oI C oC D m₂ h tk E' hlt hP ⟨⟨tail, rfl⟩, hs, hs2, hR⟩ hC hx F N off ne
    have hv : (ps.map fT)[i]? = some v := by simpa using hP
    rw [List.getElem?_map] at hv
    obtain ⟨p, hp, rfl⟩ := Option.map_eq_some_iff.mp hv
    have hm : p ∈ ps := List.mem_of_getElem? hp
    refine wpAny_mono (turn p ys tail I oI C oC D m₂ h tk E' hm ((hG p hm).1.mono hs2) (hG p hm).2 hs hC hx F N off ne) (fun y s' hq => ?_) fun _ _ e => e
    obtain ⟨h', tk', nx', e', F', N', off', hS', a, us, nn, rfl, hus, rfl⟩ := hq
    have up : ∀ q ∈ c :: tail, q ∈ c :: (a, W.listOf (List.toArray us) nn) :: tail := fun q hq => by
      rcases List.mem_cons.mp hq with rfl | hq
      · exact List.mem_cons_self
      · exact List.mem_cons_of_mem _ (List.mem_cons_of_mem _ hq)
    refine ⟨h', tk', _, e', F', N', off', hS', ⟨_, rfl⟩, fun q hq => up q (hs q hq), fun q hq => List.mem_cons_of_mem _ (hs2 q hq), ?_⟩
    rw [List.take_add_one, hp, List.map_append]
    exact (hR.mono up).snoc ⟨us, nn, List.mem_cons_of_mem _ List.mem_cons_self, hus⟩
  · rintro ys nx ⟨_, hs, _, hR⟩
    have : ps.take (ps.map fT).toArray.size = ps := by simp
    rw [this] at hR
    exact fin ys nx hs hR
variable {I C D rl : Addr} {oI oC oD : Obj} {s₁ : Shared} {S : List (Addr × Obj) → Prop} {h' : Heap} {tk nn : Nat} {tail all : List (Addr × Obj)} {c : Addr × Obj} {us : List Value} {row : List Int}
theorem read_end (F : Fr h₀ L h' m) (N : News h₀ L h' all) (hi : IntsAre us row) (hr : (rl, W.listOf us.toArray nn) ∈ all) (h1 : (I, oI) ∈ all) (h2 : (C, oC) ∈ all) (h3 : (D, oD) ∈ all) (h4 : c ∈ all) (h5 : ∀ p ∈ tail, p ∈ all) (off : Off3 I C D (c :: tail)) (hne : (@Ne Nat rl I) ∧ (@Ne Nat rl C) ∧ (@Ne Nat rl D)) (hS : S (c :: (rl, W.listOf us.toArray nn) :: tail)) :
    CompEnd h₀ L m s₁ I oI C oC D oD S (fun y nx' => ∃ a us nn, y = .ref a ∧ IntsAre us row ∧ nx' = c :: (a, W.listOf (List.toArray us) nn) :: tail) (.ref rl) { s₁ with heap := h', toks := tk } := by
  refine CompEnd.intro F N (c :: (rl, W.listOf us.toArray nn) :: tail) ?_ ⟨off.1, hne, off.2⟩ hS ⟨rl, us, nn, rfl, hi, rfl⟩
  intro p hp
  simp only [List.mem_cons] at hp
  rcases hp with rfl | rfl | rfl | rfl | rfl | hp
  · exact h1
  · exact h2
  · exact h3
  · exact h4
  · exact hr
  · exact h5 p hp
end
abbrev rowsD (ds : List (List Int)) : PyData := .list (ds.map fun r => .list (r.map PyData.int))
theorem readsAll_rows {h₀ h : Heap} {L : Addr} {nx : List (Addr × Obj)} (N : News h₀ L h nx) {ys : List Value} {ds : List (List Int)} (hR : RowsIn nx ys ds) : ∃ as, ReadsAll h ys (ds.map fun r => .list (r.map PyData.int)) as := by
  induction hR with
  | nil => exact ⟨_, .nil⟩
  | cons a _ ih =>
    obtain ⟨as, h2⟩ := ih
    obtain ⟨vs, nn, hm, hi⟩ := a
    have hl : h.IsList _ (List.toArray vs) := ⟨_, (N _ hm).1, rfl, _, rfl⟩
    exact ⟨_, .cons (reads_newData hl (ke_carried hi)) h2⟩
theorem shaped_rows (ds : List (List Int)) : SeqAt.shaped (rowsD ds) = true := by
  have h1 : PyData.canLayAll0 (ds.map fun r => PyData.list (r.map PyData.int)) = true := by
    induction ds with
    | nil => rfl
    | cons d r ih => simp [PyData.canLayAll0, PyData.canLay0, ke_canLayAll0, ih]
  have h2 : PyData.depthAll (ds.map fun r => PyData.list (r.map PyData.int)) ≤ 1 := by
    clear h1
    induction ds with
    | nil => simp [PyData.depthAll]
    | cons d r ih => simp only [List.map_cons, PyData.depthAll, PyData.depth, ke_depthAll]; omega
  have h3 : (rowsD ds).depth ≤ 64 := by simp only [rowsD, PyData.depth]; omega
  show (PyData.canLay0 (rowsD ds) && decide ((rowsD ds).depth ≤ 64)) = true
  rw [Bool.and_eq_true]
  exact ⟨by simp only [rowsD, PyData.canLay0]; exact h1, decide_eq_true h3⟩
theorem rowsIn_ps {H : Int} {nx : List (Addr × Obj)} : ∀ {ps : List Trip}, (∀ p ∈ ps, Good H nx p) → RowsIn nx (ps.map fR) (ps.map (·.2.2))
  | [], _ => .nil
  | p :: r, h => .cons (h p List.mem_cons_self).2 (rowsIn_ps fun q hq => h q (List.mem_cons_of_mem _ hq))
section
variable {prog : Program} {w : World} {A : Around} {E : Value → Shared → Prop} {s : Shared} {a r : Addr} {Q : Value → Shared → Prop} {h₀ : Heap} {L : Addr} {news nx old : List (Addr × Obj)} {H : Int} {ps : List Trip} {ys : List Value} {na nr n : Nat}
theorem eq_rows (N : News h₀ L s.heap ((a, W.listOf ys.toArray na) :: nx)) (hR : RowsIn nx ys (ps.map (·.2.2))) (hG : ∀ p ∈ ps, Good H old p ∧ p.2.2.length ≤ n) (hr : (r, W.listOf (ps.map fR).toArray nr) ∈ nx) (hs : ∀ p ∈ old, p ∈ nx) (hu : A.units + 64 < cLine) (h : Q (.bool true) s) :
    wpAny (model prog w) A (compareOp .Eq (.ref a) (.ref r)) Q E s := by
  have N₂ : News h₀ L s.heap nx := drop1 N
  obtain ⟨as, h1⟩ := readsAll_rows N₂ hR
  obtain ⟨bs, h2⟩ := readsAll_rows N₂ (rowsIn_ps fun p hp => (hG p hp).1.mono hs)
  have r1 : Reads s.heap (.ref a) (rowsD (ps.map (·.2.2))) (a :: as) := .list (N _ List.mem_cons_self).1 rfl rfl (by simpa using h1)
  have r2 : Reads s.heap (.ref r) (rowsD (ps.map (·.2.2))) (r :: bs) := .list (N₂ _ hr).1 rfl rfl (by simpa using h2)
  exact eq_self r1 r2 (shaped_rows _) (SeqAt.noMix_of_shape (.list (.list .int)) rfl _ _ (list_map_has fun _ => list_map_has fun _ => rfl) (list_map_has fun _ => list_map_has fun _ => rfl)) hu h
end
end Mine
namespace Mine
theorem lift2 {H : Int} {old : List (Addr × Obj)} {q1 q2 : Addr × Obj} {ps : List Trip} {n : Nat} (h : ∀ p ∈ ps, Good H old p ∧ p.2.2.length ≤ n) : ∀ p ∈ ps, Chain H (q1 :: q2 :: old) p.1 p.2.2 ∧ p.2.2.length ≤ n :=
  fun p hp => ⟨(h p hp).1.1.mono fun _ hq => List.mem_cons_of_mem _ (List.mem_cons_of_mem _ hq), (h p hp).2⟩
theorem size_ps {f : Trip → Value} {ps : List Trip} (h : ps.length ≤ 41) : (ps.map f).toArray.size ≤ sizeLine := by
  rw [List.size_toArray, List.length_map, sizeLine_eq]; omega
theorem up1 {q c a : Addr × Obj} {tail : List (Addr × Obj)} (h : q ∈ c :: tail) : q ∈ c :: a :: tail := by
  rcases List.mem_cons.mp h with rfl | h
  · exact List.mem_cons_self
  · exact List.mem_cons_of_mem _ (List.mem_cons_of_mem _ h)
end Mine
namespace Mine
section
variable {prog : Program} {w : World} {A : Around} {E : Value → Shared → Prop} {s : Shared} {h₀ : Heap} {L : Addr} {news : List (Addr × Obj)} {Q : Value → Shared → Prop} {l : Addr} {nn : Nat}
theorem len_us {us : List Value} (N : News h₀ L s.heap news) (hl : (l, W.listOf us.toArray nn) ∈ news) (hsz : us.length ≤ 1000) (h : Q (.int (us.length : Int) (s.toks + 1)) { s with toks := s.toks + 1 + 1 }) :
    wpAny (model prog w) A (call (.builtin "len") [.ref l]) Q E s := by
  refine len_list (news_list N hl) ?_ ?_
  · simp only [List.size_toArray]; omega
  · simpa using h
end
end Mine
local macro_rules | `(tactic| k_all) => `(tactic| first | assumption | exact Mine.allLt_ne (by assumption))
local macro_rules | `(tactic| walk_at "exec For") => `(tactic| (k_here; with_unfolding_all ((rename Fr _ _ _ _ => F'); (refine For_invVF F' (by rfl) (by rfl) ?_))))
local macro_rules | `(tactic| walk_at "pyIter ref") => `(tactic| (k_here; (rename Fr _ _ _ _ => lF'); (rename News _ _ _ _ => lN'); (with_unfolding_all (refine' Mine.loop_tops [Str.ofString "k", Str.ofString "below"] (by rfl) lF' lN' (by assumption) (by omega) (by exact List.Mem.tail _ (List.Mem.tail _ (List.Mem.tail _ (List.Mem.head _)))) (by exact List.Mem.tail _ (List.Mem.head _)) (List.forall_mem_cons.mpr ⟨List.Mem.head _, List.forall_mem_cons.mpr ⟨List.Mem.tail _ (List.Mem.tail _ (List.Mem.head _)), List.forall_mem_cons.mpr ⟨List.Mem.tail _ (List.Mem.tail _ (List.Mem.tail _ (List.Mem.tail _ (List.Mem.head _)))), List.forall_mem_cons.mpr ⟨List.Mem.tail _ (List.Mem.tail _ (List.Mem.tail _ (List.Mem.tail _ (List.Mem.tail _ (List.Mem.head _))))), List.forall_mem_cons.mpr ⟨List.Mem.tail _ (List.Mem.tail _ (List.Mem.tail _ (List.Mem.tail _ (List.Mem.tail _ (List.Mem.tail _ (List.Mem.head _)))))), List.forall_mem_cons.mpr ⟨List.Mem.tail _ (List.Mem.tail _ (List.Mem.tail _ (List.Mem.tail _ (List.Mem.tail _ (List.Mem.tail _ (List.Mem.tail _ (List.Mem.head _))))))), List.forall_mem_nil _⟩⟩⟩⟩⟩⟩) (by k_ne) (by k_all) (by k_all) ?_ ?_ ?_)); (rotate_left 2; (intro sPs sU h' tk' sOld sNt sNr sLen sG sO1 sO2 F' N'; (clear lF' lN'); (try k_fold)); rotate_left 1; (intro sPs sI tN tTk sU xx' ed' ee' et' n1' rr' n2' h' tk' iI' iO' sOld sNt sNr sLen sI40 sLast sG sC sO1 sO2 F' N'; (clear lF' lN'); (try k_fold)); rotate_left 1; (intro sPs sI tN tTk sU xx' ed' ee' et' n1' rr' n2' eK eKt eY eRow eV eVs h' tk' iI' iO' sOld sNt sNr sLen sI40 sLast sG sC sCy sInts sLt sO1 sO2 F' N'; (clear lF' lN'); (try k_fold)); rotate_left 1)))
local macro_rules | `(tactic| walk_at "subscriptTail Name UnaryOp ref int") => `(tactic| (k_here; (with_reducible show wpAny _ _ (subscriptTail _ _ (Value.ref _) (Value.int _ _)) _ _ _); (with_reducible (first | (refine Mine.item_last (hs := by with_unfolding_all rfl) (by k_asm) (by repeat (first | with_reducible exact List.mem_cons_self | with_reducible refine List.mem_cons_of_mem _ ?_)) (by assumption) (by omega) ?_) | (refine Mine.item_push (hs := by with_unfolding_all rfl) (by k_asm) (by repeat (first | with_reducible exact List.mem_cons_self | with_reducible refine List.mem_cons_of_mem _ ?_)) ?_))); (try simp only [Mine.fT, Mine.fR])))
local macro_rules | `(tactic| walk_at "subscriptTail Name Name ref int") => `(tactic| (k_here; (with_reducible show wpAny _ _ (subscriptTail _ _ (Value.ref _) (Value.int _ _)) _ _ _); (with_reducible (refine Mine.item_mod (0, 0, []) (hs := by with_unfolding_all rfl) (by k_asm) (by repeat (first | with_reducible exact List.mem_cons_self | with_reducible refine List.mem_cons_of_mem _ ?_)) (by rfl) (by omega) (by omega) ?_)); (try simp only [Mine.fT, Mine.fR])))
local macro_rules | `(tactic| walk_at "call builtin:len") => `(tactic| (k_here; with_unfolding_all (first | (refine Mine.len_ps (by k_asm) (by k_mem) (by omega) ?_) | (refine Mine.len_us (by k_asm) (by k_mem) (by omega) ?_))))
local macro_rules | `(tactic| walk_at "TopsPost") => `(tactic| ((rename News _ _ _ _ => nE'); (rename Fr _ _ _ _ => fE'); k_dflt (first | (refine Mine.endA fE' nE' (by assumption) (by assumption) (by k_mem) (by k_mem) (by k_mem) (by with_reducible rfl) (by with_reducible rfl) (fun p hp => by simp only [List.mem_cons, hp, or_true]) (by intro z h1 h2; (have hk := Mine.not_stored (a := Str.ofString "k") h2 (by decide)); (have hb := Mine.not_stored (a := Str.ofString "below") h2 (by decide)); simp only [hk, hb, h1, h2, if_false, Bool.false_eq_true])) | (refine Mine.endB fE' nE' (by with_reducible assumption) (by assumption) (by k_mem) (by assumption) (by k_mem) (by k_mem) (by k_mem) (by with_reducible rfl) (by with_reducible rfl) (fun p hp => by simp only [List.mem_cons, hp, or_true]) (by refine ⟨?_, ?_, ?_⟩ <;> k_ne) (by intro z h1 h2; (have hk := Mine.not_stored (a := Str.ofString "k") h2 (by decide)); (have hb := Mine.not_stored (a := Str.ofString "below") h2 (by decide)); simp only [hk, hb, h1, h2, if_false, Bool.false_eq_true])) | (refine Mine.endC fE' nE' (by k_mem) (by k_mem) (by k_mem) (by assumption) (by k_mem) (by first | exact .cons _ _ .nil | assumption) (by first | exact Nat.zero_le _ | (simp only [List.length_cons]; omega)) (by k_mem) (by k_mem) (by k_mem) (by first | with_reducible rfl | rfl) (by first | with_reducible rfl | rfl) (fun p hp => by simp only [List.mem_cons, hp, or_true]) (by refine ⟨?_, ?_, ?_⟩ <;> k_ne) (by refine ⟨?_, ?_, ?_⟩ <;> k_ne) (by refine ⟨?_, ?_, ?_⟩ <;> k_ne) (by refine ⟨?_, ?_, ?_⟩ <;> k_ne) (by intro z h1 h2; (have hk := Mine.not_stored (a := Str.ofString "k") h2 (by decide)); (have hb := Mine.not_stored (a := Str.ofString "below") h2 (by decide)); simp only [hk, hb, h1, h2, if_false, Bool.false_eq_true])))))
local macro_rules | `(tactic| walk_at "eval ListComp Call") => `(tactic| (k_here; k_dflt (refine LCg.ListComp_U (F₀ := by k_asm) (by with_unfolding_all rfl) (by decide) (by rfl) (by decide) (by rfl) ?_); k_dflt lcg_toSrc))
local macro_rules | `(tactic| walk_at "CompSrc Call") => `(tactic| (k_here; k_dflt (refine LCg.CompSrc.ledger (by rfl) (by k_asm) (by k_asm) (by k_mem) (Mine.size_ps (by assumption)) ?_); intro g'; (refine Mine.rest_read (Mine.lift2 (by assumption)) ?_ ?_); (rotate_left 1; intro sYs sNx sSub sRows; rotate_left 1; intro tP tYs tTail tA oA tC oC tD m2 h' tk' tE hMem hCh hLen hSub hC' hx' F' N' off' ne'; simp only [Mine.fT] at hx')))
local macro_rules | `(tactic| walk_at "exec While") => `(tactic| (k_here; (rename Fr _ _ _ _ => lF'); (rename News _ _ _ _ => lN'); k_dflt (refine Mine.while_read lF' (by rfl) lN' (Mine.Chain.mono (by assumption) (fun p hp => by simp only [List.mem_cons, hp, or_true])) (by k_all) ?_ ?_); (rotate_left 1; (intro ex' ed' ee' et' n1' eK eKt eY eUs eDs n2' h' tk' sInts sLt sNe F' N'; (clear lF' lN')); rotate_left 1; (intro ex' ed' ee' et' n1' eUs n2' h' tk' sInts sEq F' N'; (clear lF' lN')))))
local macro_rules | `(tactic| walk_at "ReadPost") => `(tactic| ((rename News _ _ _ _ => nE'); (rename Fr _ _ _ _ => fE'); k_dflt (refine Mine.ReadPost.next fE' nE' (by k_mem) (fun p hp => by simp only [List.mem_cons, hp, or_true]) (by first | exact Mine.ints_snoc (by assumption) | (rw [List.push_toArray]; exact Mine.ints_snoc (by assumption))) (by rfl) (by intro z hz; simp only [hz, if_false]))))
local macro_rules | `(tactic| walk_at "CompEnd ref") => `(tactic| (((rename News _ _ _ _ => nE'); (rename Fr _ _ _ _ => fE'); k_dflt (refine Mine.read_end fE' nE' (by assumption) (by k_mem) (by k_mem) (by k_mem) (by k_mem) (by k_mem) (fun p hp => by simp only [List.mem_cons, hp, or_true]) (by assumption) (by refine ⟨?_, ?_, ?_⟩ <;> k_ne) (Or.inr ⟨_, Mine.up1 ((by assumption : ∀ q ∈ _ :: _, q ∈ _ :: _) _ (List.mem_cons_of_mem _ List.mem_cons_self)), rfl, _, rfl⟩)))))
local macro_rules | `(tactic| walk_at "compareOp Eq ref ref") => `(tactic| (k_here; (rename News _ _ _ _ => nE'); k_dflt (refine Mine.eq_rows nE' (by assumption) (by assumption) ((by assumption : ∀ q ∈ _ :: _, q ∈ _) _ (List.mem_cons_of_mem _ (List.mem_cons_of_mem _ List.mem_cons_self))) (fun p hp => (by assumption : ∀ q ∈ _ :: _, q ∈ _) p (List.mem_cons_of_mem _ (List.mem_cons_of_mem _ (List.mem_cons_of_mem _ hp)))) (by ke_room) ?_)))
local macro_rules | `(tactic| walk_at "compareOp NotEq ref ref") => `(tactic| (k_here; k_dflt (refine Mine.ne_unit (by k_asm) (by k_mem) (by k_mem) (by k_units) ?_)))
set_option maxRecDepth 100000 in
set_option maxHeartbeats 16000000 in
theorem PySem.Challenge.cw_dm0103_05_holds : PySem.Challenge.rw_dm0103_05.Holds := by
  open_k
