import PyProof.Rows.All
import Wide.All
import OpenK.AllK
import Wide.FinOn
import PySem.Challenge.RW_dm0103_10
open PySem PySem.W PyProof.Rows
set_option Elab.async false
namespace Mine
section
variable {prog : Program} {w : World} {A : Around} {E : Value → Shared → Prop} {s : Shared} {env : Env} {h₀ : Heap} {x : Str} {body : List Stmt} {Q : Flow → Shared → Prop}
/-- a turn's end: the ledger nx (it may have grown), the list that is walked in it, the iterator (I, oI) beside it -/
def GrowEnd (h₀ : Heap) (L : Addr) (l : Addr) (o : Obj) (I : Addr) (oI : Obj) (J : (Str → Option Value) → List (Addr × Obj) → Prop) (s₁ s₂ : Shared) : Prop :=
  ∃ h' tk m' nx, s₂ = { s₁ with heap := h', toks := tk } ∧ Fr h₀ L h' m' ∧ News h₀ L h' ((I, oI) :: nx) ∧ (l, o) ∈ nx ∧ (∀ p ∈ nx, p.1 ≠ I) ∧ J m' nx
def GrowPost (h₀ : Heap) (L : Addr) (l : Addr) (o : Obj) (I : Addr) (oI : Obj) (J : (Str → Option Value) → List (Addr × Obj) → Prop) (s₁ : Shared) (Q : Flow → Shared → Prop) (f : Flow) (s₂ : Shared) : Prop :=
  match f with
  | .ret v => Q (.ret v) s₂
  | .brk => Q .next s₂
  | _ => GrowEnd h₀ L l o I oI J s₁ s₂
/-- a loop over a list of the ledger's, its invariant over a ledger that may grow -/
theorem loop_grow {l : Addr} {vs : List Value} {nn : Nat} {m₀ : Str → Option Value} {news : List (Addr × Obj)} (J : Nat → (Str → Option Value) → List (Addr × Obj) → Prop)
    (hh : A.handled = none) (hl : (l, W.listOf vs.toArray nn) ∈ news) (F : Fr h₀ env.locals s.heap m₀) (N : News h₀ env.locals s.heap news) (hj : J 0 m₀ news)
    (turn : ∀ (i : Nat) v m₁ nx h tk oI, vs[i]? = some v → J i m₁ nx → (l, W.listOf vs.toArray nn) ∈ nx → (∀ p ∈ nx, p.1 ≠ s.heap.objs.size) → Fr h₀ env.locals h (fun y => if y = x then some v else m₁ y) → News h₀ env.locals h (nx ++ [(s.heap.objs.size, oI)]) →
      wpAny (model prog w) A (execs body env) (GrowPost h₀ env.locals l (W.listOf vs.toArray nn) s.heap.objs.size oI (J (i + 1)) { s with heap := h, toks := tk } Q) E { s with heap := h, toks := tk })
    (done : ∀ m₁ nx h tk, J vs.length m₁ nx → (l, W.listOf vs.toArray nn) ∈ nx → Fr h₀ env.locals h m₁ → News h₀ env.locals h nx → Q .next { s with heap := h, toks := tk }) :
    wpAny (model prog w) A (pyIter (.ref l)) (fun it s₂ => LoopAtV prog w A h₀ env x body Q E it s₂) E s := by
  have hol := (N _ hl).1
  have hls : s.heap.IsList l vs.toArray := ⟨_, hol, rfl, nn, rfl⟩
  have hne : l ≠ s.heap.objs.size := Nat.ne_of_lt (Heap.lt_size hol)
  have hlt : ∀ p ∈ news, p.1 ≠ s.heap.objs.size := fun p hp => Nat.ne_of_lt (Heap.lt_size (N p hp).1)
  refine wpAny_pyIter_list hls ?_
  have WK := Walks.list (prog := prog) (w := w) hh s.heap.objs.size l hne vs.toArray
  refine ⟨_, _, _, vs.toArray.size, _, _, m₀, news, (fun i m nx => (l, W.listOf vs.toArray nn) ∈ nx ∧ J i m nx), rfl, WK, ?_, ?_, ?_, ⟨⟨_, Heap.get?_push_size _ rfl, rfl, rfl⟩, hls.at fun o e => Heap.get?_push_of_some _ e⟩, F.push _, (fun p hp => ⟨Heap.get?_push_of_some _ (N p hp).1, (N p hp).2⟩), ⟨hl, hj⟩, ?_, ?_⟩
  · intro hm
    rcases List.mem_cons.mp hm with e | hm
    · exact absurd F.ns.lt (e ▸ Nat.lt_irrefl _)
    · exact (N _ hl).2.1 ((List.mem_singleton.mp hm).symm)
  · intro b hb
    rw [List.mem_singleton.mp hb]
    exact next_is_new F
  · intro p hp hI
    exact hlt p hp (List.mem_singleton.mp hI)
  · rintro i v m₁ nx s₁ own ⟨h, tk, rfl⟩ hin hP ⟨hl₁, hJ⟩ hoff hown hget hfp hst F₁ N₁
    obtain ⟨oI, hoI, _⟩ := hst.1
    have hI : (s.heap.objs.size, oI) ∈ own := hfp _ (List.mem_cons_self) (next_is_new F) oI hoI
    have hoff' : ∀ p ∈ nx, p.1 ≠ s.heap.objs.size := fun p hp e => hoff p hp (by rw [e]; exact List.mem_cons_self)
    have N₂ : News h₀ env.locals h (nx ++ [(s.heap.objs.size, oI)]) := fun p hp => N₁ p (by
      rcases List.mem_append.mp hp with hp | hp
      · exact List.mem_append.mpr (.inr hp)
      · rw [List.mem_singleton.mp hp]; exact List.mem_append.mpr (.inl hI))
    have hlo : h.get? l = some (W.listOf vs.toArray nn) := (N₁ _ (List.mem_append.mpr (.inr hl₁))).1
    have hP' : vs[i]? = some v := by simpa using hP
    refine wpAny_mono (turn i v m₁ nx h tk oI hP' hJ hl₁ hoff' F₁ N₂) (fun f s₂ p => ?_) fun _ _ e => e
    have fin : GrowEnd h₀ env.locals l (W.listOf vs.toArray nn) s.heap.objs.size oI (J (i + 1)) { s with heap := h, toks := tk } s₂ →
        LoopStepU h₀ env.locals [s.heap.objs.size] own (fun m nx => (l, W.listOf vs.toArray nn) ∈ nx ∧ J (i + 1) m nx) { s with heap := h, toks := tk } .next s₂ := by
      rintro ⟨h', tk', m', nx', e, F', N', hl', ho', hJ'⟩
      refine ⟨rfl, h', tk', m', nx', e, F', fun p hp => ?_, fun p hp hq => ho' p hp (List.mem_singleton.mp hq), hl', hJ'⟩
      rcases List.mem_append.mp hp with hp | hp
      · have hg : h.get? p.1 = some p.2 := hget p hp
        rcases List.mem_cons.mp (hown p hp) with e1 | e1
        · have : p = (s.heap.objs.size, oI) := Prod.ext e1 (by rw [e1] at hg; exact Option.some.inj (hg.symm.trans hoI))
          rw [this]
          exact N' _ List.mem_cons_self
        · have e2 := List.mem_singleton.mp e1
          have : p = (l, W.listOf vs.toArray nn) := Prod.ext e2 (by rw [e2] at hg; exact Option.some.inj (hg.symm.trans hlo))
          rw [this]
          exact N' _ (List.mem_cons_of_mem _ hl')
      · exact N' p (List.mem_cons_of_mem _ hp)
    cases f with
    | ret v => exact .ret p
    | brk => exact .brk p
    | next => exact .next (fin p)
    | cont => exact .cont (fin p)
  · rintro h' tk m' nx F' N' _ ⟨hl', hJ⟩
    exact done m' nx h' tk (by simpa using hJ) hl' F' N'
end
end Mine
namespace Mine
section
open LCg
variable {prog : Program} {w : World} {A : Around} {s : Shared} {h₀ : Heap} {L : Addr} {m : Str → Option Value} {env : Env}
/-- a comprehension of any length whose ledger may grow: T says what holds of the items so far -/
theorem rest_grow {elt : Expr} {x : Str} {scope : Scope} {cl : List (Str × Addr)} {S : List (Addr × Obj) → Prop} {P : Nat → Value → Prop} {Fin : List Value → List (Addr × Obj) → Prop} {n : Nat} (T : Nat → List Value → List (Addr × Obj) → Prop)
    (turn : ∀ i v ys nx I oI C oC D m₂ h tk (E' : Value → Shared → Prop), i < n → P i v → T i ys nx → NsObj oC m₂ → m₂ x = some v → Fr h₀ L h m → News h₀ L h ((I, oI) :: (C, oC) :: (D, lst ys) :: nx) → Off3 I C D nx → ((@Ne Nat I C) ∧ (@Ne Nat I D) ∧ (@Ne Nat C D)) →
      wpAny (model prog w) A (eval elt (compEnvC scope cl C env)) (CompEnd h₀ L m { s with heap := h, toks := tk } I oI C oC D (lst ys) S (fun y nx' => T (i + 1) (ys ++ [y]) nx')) E' { s with heap := h, toks := tk })
    (fin : ∀ ys nx, T n ys nx → Fin ys nx) : ∀ k i ys nx, i + k = n → T i ys nx → CompRest prog w A h₀ L m env elt x scope cl s S P Fin k i ys nx := by
  intro k
  induction k with
  | zero => exact fun i ys nx hi h => fin ys nx (by rw [Nat.add_zero] at hi; exact hi ▸ h)
  | succ k ih =>
    intro i ys nx hi hT
    refine CompRest.succ ?_
    intro v I oI C oC D m₂ h tk E' hv hC hx F N off ne
    refine wpAny_mono (turn i v ys nx I oI C oC D m₂ h tk E' (by omega) hv hT hC hx F N off ne) (fun y s' hq => ?_) fun _ _ e => e
    obtain ⟨h', tk', news', e, F', N', off', hS', hT'⟩ := hq
    exact ⟨h', tk', news', e, F', N', off', hS', ih (i + 1) (ys ++ [y]) news' (by omega) hT'⟩
end
theorem allLt_ne {d : Nat} {l : List (Addr × Obj)} (h : AllLt d l) : ∀ p ∈ l, p.1 ≠ d := by
  induction l with
  | nil => exact fun _ hp => nomatch hp
  | cons q r ih =>
    intro p hp
    rcases List.mem_cons.mp hp with e | hp
    · rw [e]; exact Nat.ne_of_lt h.1
    · exact ih h.2 p hp
section
open LCg
variable {prog : Program} {w : World} {A : Around} {s : Shared} {h₀ : Heap} {L : Addr} {m : Str → Option Value} {env : Env}
theorem rest_ints {elt : Expr} {x : Str} {scope : Scope} {cl : List (Str × Addr)} {S : List (Addr × Obj) → Prop} {Fin : List Value → List (Addr × Obj) → Prop} {vs : List Value} {ns : List Int} (hi : IntsAre vs ns) (T : Nat → List Value → List (Addr × Obj) → Prop) {nx₀ : List (Addr × Obj)}
    (start : T 0 [] nx₀)
    (turn : ∀ i n t ys nx I oI C oC D m₂ h tk (E' : Value → Shared → Prop), ns[i]? = some n → T i ys nx → NsObj oC m₂ → m₂ x = some (.int n t) → Fr h₀ L h m → News h₀ L h ((I, oI) :: (C, oC) :: (D, lst ys) :: nx) → Off3 I C D nx → ((@Ne Nat I C) ∧ (@Ne Nat I D) ∧ (@Ne Nat C D)) →
      wpAny (model prog w) A (eval elt (compEnvC scope cl C env)) (CompEnd h₀ L m { s with heap := h, toks := tk } I oI C oC D (lst ys) S (fun y nx' => T (i + 1) (ys ++ [y]) nx')) E' { s with heap := h, toks := tk })
    (fin : ∀ ys nx, T ns.length ys nx → Fin ys nx) : CompRest prog w A h₀ L m env elt x scope cl s S (fun i v => vs.toArray[i]? = some v) Fin vs.toArray.size 0 [] nx₀ := by
  refine rest_grow T ?_ (fun ys nx h => fin ys nx (by rw [← hi.length]; simpa using h)) _ _ _ _ (Nat.zero_add _) start
  intro i v ys nx I oI C oC D m₂ h tk E' hlt hP hT hC hx F N off ne
  obtain ⟨n, t, rfl, hn⟩ := IntsAre.at hi i v (by simpa using hP)
  exact turn i n t ys nx I oI C oC D m₂ h tk E' hn hT hC hx F N off ne
end
end Mine
namespace Mine
theorem strOk_ofString (x : String) : PyData.strOk (Str.ofString x) = true := by
  rw [Str.ofString_eq_toList]
  unfold PyData.strOk
  rw [Array.all_eq_true']
  intro c hc
  simp only [List.mem_toArray, List.mem_map] at hc
  obtain ⟨ch, _, rfl⟩ := hc
  have := ch.valid
  simp only [UInt32.isValidChar, Nat.isValidChar] at this
  have e : ch.toNat = ch.val.toNat := rfl
  rw [decide_eq_true_eq, e]
  omega
theorem strOk_app (x y : Str) (hx : PyData.strOk x = true) (hy : PyData.strOk y = true) : PyData.strOk (x ++ y) = true := by
  unfold PyData.strOk at *
  rw [PySem.Str.cps_append, Array.all_append, hx, hy]
  rfl
section
variable {prog : Program} {w : World} {A : Around} {E : Value → Shared → Prop} {s : Shared} {a b : Value} {d : PyData} {as bs : List Addr} {Q : Value → Shared → Prop}
theorem eq_self (ra : Reads s.heap a d as) (rb : Reads s.heap b d bs) (hs : SeqAt.shaped d = true) (hm : SeqAt.noMix d d = true) (hu : A.units + 64 < cLine) (h : Q (.bool true) s) : wpAny (model prog w) A (compareOp .Eq a b) Q E s :=
  eq_dataH_same ra rb hs hs hu hm (by rw [Spec.same_self]; exact h)
theorem ne_self (ra : Reads s.heap a d as) (rb : Reads s.heap b d bs) (hs : SeqAt.shaped d = true) (hm : SeqAt.noMix d d = true) (hu : A.units + 64 < cLine) (h : Q (.bool false) s) : wpAny (model prog w) A (compareOp .NotEq a b) Q E s :=
  ne_dataH_same ra rb hs hs hu hm (by rw [Spec.same_self]; exact h)
end
theorem shaped_flat {ds : List PyData} (h : ∀ d ∈ ds, PyData.canLay0 d = true ∧ d.depth = 0) : SeqAt.shaped (.list ds) = true := by
  have h1 : PyData.canLayAll0 ds = true := by
    induction ds with
    | nil => rfl
    | cons d r ih => simp [PyData.canLayAll0, (h d List.mem_cons_self).1, ih fun e he => h e (List.mem_cons_of_mem _ he)]
  have h2 : PyData.depthAll ds = 0 := by
    induction ds with
    | nil => rfl
    | cons d r ih => simp [PyData.depthAll, (h d List.mem_cons_self).2, ih (fun e he => h e (List.mem_cons_of_mem _ he)) (by simp [PyData.canLayAll0] at h1; exact h1.2)]
  simp [SeqAt.shaped, PyData.canLay0, PyData.depth, h1, h2]
theorem carried_bools : ∀ bs : List Bool, CarriedAll (bs.map Value.bool) (bs.map PyData.bool)
  | [] => .nil
  | b :: r => .cons (.bool b) (carried_bools r)
section
variable {prog : Program} {w : World} {A : Around} {E : Value → Shared → Prop} {s : Shared} {a b : Addr} {Q : Value → Shared → Prop}
theorem ne_bools {bs cs : List Bool} (ha : s.heap.IsList a (bs.map Value.bool).toArray) (hb : s.heap.IsList b (cs.map Value.bool).toArray) (e : bs = cs) (hu : A.units + 64 < cLine) (h : Q (.bool false) s) :
    wpAny (model prog w) A (compareOp .NotEq (.ref a) (.ref b)) Q E s := by
  subst e
  refine ne_self (reads_newData ha (carried_bools bs)) (reads_newData hb (carried_bools bs)) (shaped_flat fun d hd => ?_) (SeqAt.noMix_of_shape (.list .bool) rfl _ _ (list_map_has fun _ => rfl) (list_map_has fun _ => rfl)) hu h
  obtain ⟨x, _, rfl⟩ := List.mem_map.mp hd
  exact ⟨rfl, rfl⟩
theorem ok_nil : ∀ y ∈ ([] : List Str), PyData.strOk y = true := fun _ h => nomatch h
theorem ok_cons {x : Str} {xs : List Str} (h : PyData.strOk x = true) (r : ∀ y ∈ xs, PyData.strOk y = true) : ∀ y ∈ x :: xs, PyData.strOk y = true := by
  intro y hy
  rcases List.mem_cons.mp hy with rfl | hy
  · exact h
  · exact r y hy
inductive Strs : List Value → List Str → Prop
  | nil : Strs [] []
  | cons {x y : Str} {t : Tok} {vs : List Value} {xs : List Str} : x = y → Strs vs xs → Strs (.str x t :: vs) (y :: xs)
theorem carried_strs : ∀ {vs : List Value} {xs : List Str}, Strs vs xs → CarriedAll vs (xs.map PyData.str)
  | _, _, .nil => .nil
  | _, _, .cons e r => by subst e; exact .cons (.str _ _) (carried_strs r)
theorem eq_strs {vs us : List Value} {xs : List Str} (ha : s.heap.IsList a vs.toArray) (hb : s.heap.IsList b us.toArray) (hu : A.units + 64 < cLine) (hv : Strs vs xs) (hus : Strs us xs) (ok : ∀ x ∈ xs, PyData.strOk x = true) (h : Q (.bool true) s) :
    wpAny (model prog w) A (compareOp .Eq (.ref a) (.ref b)) Q E s := by
  refine eq_self (reads_newData ha (carried_strs hv)) (reads_newData hb (carried_strs hus)) (shaped_flat fun d hd => ?_) (SeqAt.noMix_of_shape (.list .str) rfl _ _ (list_map_has fun _ => rfl) (list_map_has fun _ => rfl)) hu h
  obtain ⟨x, hx, rfl⟩ := List.mem_map.mp hd
  exact ⟨ok x hx, rfl⟩
end
end Mine
namespace Mine
/-- one auto of the suite: its address, its dict's, a token, its number (none: bare) -/
structure Ent where
  x : Addr
  d : Addr
  tk : Tok
  a : Option (Int × Tok)
def Ent.num (e : Ent) : Option Int := e.a.map (·.1)
def Ent.v (e : Ent) : Value := match e.a with
  | none => .ref 37
  | some (n, t) => .int n t
abbrev valD (H : Int) (tk : Tok) (v : Value) : Obj := W.dictOf [⟨H, .str (Str.ofString "value") tk, v⟩] 1
def Ent.two (H : Int) (e : Ent) : List (Addr × Obj) := [(e.x, W.instObj 62 e.d), (e.d, valD H e.tk e.v)]
def led (H : Int) (es : List Ent) : List (Addr × Obj) := es.flatMap (Ent.two H)
def adrs (es : List Ent) : List Addr := es.flatMap fun e => [e.x, e.d]
def bareOf (n : Int) : Option Int := if n.fmod 4 = 3 then none else some n
theorem led_app (H : Int) (a b : List Ent) : led H (a ++ b) = led H a ++ led H b := List.flatMap_append
theorem led_cons (H : Int) (e : Ent) (b : List Ent) : led H (e :: b) = (e.x, W.instObj 62 e.d) :: (e.d, valD H e.tk e.v) :: led H b := rfl
theorem led_fst (H : Int) (es : List Ent) : (led H es).map (·.1) = adrs es := by
  induction es with
  | nil => rfl
  | cons e r ih =>
    rw [led_cons]
    simp only [List.map_cons, ih]
    rfl
theorem adrs_app (a b : List Ent) : adrs (a ++ b) = adrs a ++ adrs b := List.flatMap_append
theorem adrs_cons (e : Ent) (b : List Ent) : adrs (e :: b) = e.x :: e.d :: adrs b := rfl
theorem led_adr {H : Int} {es : List Ent} {p : Addr × Obj} (hp : p ∈ led H es) : p.1 ∈ adrs es := by
  rw [← led_fst H]
  exact List.mem_map_of_mem hp
theorem AllLt.mem {d : Nat} : ∀ {l : List (Addr × Obj)}, AllLt d l → ∀ p ∈ l, p.1 < d
  | [], _, _, h => nomatch h
  | _ :: _, x, p, h => by
    rcases List.mem_cons.mp h with rfl | h
    · exact x.1
    · exact AllLt.mem x.2 p h
def Suite (H : Int) (ns : List Int) (i : Nat) (ys : List Value) (nx : List (Addr × Obj)) : Prop :=
  ∃ es : List Ent, ys = es.map (fun e => Value.ref e.x) ∧ nx = led H es ∧ es.map Ent.num = (ns.take i).map bareOf ∧ (adrs es).Nodup
theorem Suite.start (H : Int) (ns : List Int) : Suite H ns 0 [] [] := ⟨[], rfl, rfl, rfl, List.nodup_nil⟩
theorem take_snoc {ns : List Int} {i : Nat} {n : Int} (h : ns[i]? = some n) : ns.take (i + 1) = ns.take i ++ [n] := by
  rw [List.take_add_one, h]
  rfl
section
open LCg
variable {h₀ : Heap} {L I C D x d : Addr} {m : Str → Option Value} {s₁ : Shared} {oI oC : Obj} {S : List (Addr × Obj) → Prop} {h' : Heap} {tk : Nat} {nx : List (Addr × Obj)} {ys : List Value} {H : Int} {ns : List Int} {i : Nat} {n : Int} {t₁ : Tok}
theorem suite_end (a : Option (Int × Tok)) (F : Fr h₀ L h' m) (N : News h₀ L h' ((x, W.instObj 62 d) :: (d, valD H t₁ (Ent.v ⟨x, d, t₁, a⟩)) :: (I, oI) :: (C, oC) :: (D, lst ys) :: nx))
    (l1 : @LT.lt Nat _ I d ∧ @LT.lt Nat _ C d ∧ @LT.lt Nat _ D d ∧ AllLt d nx) (l2 : @LT.lt Nat _ d x) (off : Off3 I C D nx) (hS : ∀ nx, S nx) (hT : Suite H ns i ys nx) (hn : ns[i]? = some n) (hv : a.map (·.1) = bareOf n) :
    CompEnd h₀ L m s₁ I oI C oC D (lst ys) S (fun y nx' => Suite H ns (i + 1) (ys ++ [y]) nx') (.ref x) { s₁ with heap := h', toks := tk } := by
  obtain ⟨es, rfl, rfl, hM, hnd⟩ := hT
  have lt := AllLt.mem l1.2.2.2
  have ltA : ∀ b ∈ adrs es, b < d := by
    intro b hb
    rw [← led_fst H] at hb
    obtain ⟨p, hp, rfl⟩ := List.mem_map.mp hb
    exact lt p hp
  refine CompEnd.intro F N (led H (es ++ [⟨x, d, t₁, a⟩])) ?_ ?_ (hS _) ⟨es ++ [⟨x, d, t₁, a⟩], ?_, rfl, ?_, ?_⟩
  · intro p hp
    rw [led_app, led_cons] at hp
    simp only [List.mem_cons, List.mem_append] at hp ⊢
    rcases hp with h | h | h | h | h | h | h
    · exact .inr (.inr (.inl h))
    · exact .inr (.inr (.inr (.inl h)))
    · exact .inr (.inr (.inr (.inr (.inl h))))
    · exact .inr (.inr (.inr (.inr (.inr h))))
    · exact .inl h
    · exact .inr (.inl h)
    · exact nomatch h
  · refine Off3.of fun p hp => ?_
    rw [led_app, led_cons] at hp
    simp only [List.mem_cons, List.mem_append] at hp
    obtain ⟨a1, a2, a3, _⟩ := l1
    rcases hp with h | h | h | h
    · exact off.mem p h
    · subst h
      refine ⟨?_, ?_, ?_⟩ <;> (refine Nat.ne_of_gt ?_; exact Nat.lt_trans (by assumption) l2)
    · subst h
      exact ⟨Nat.ne_of_gt a1, Nat.ne_of_gt a2, Nat.ne_of_gt a3⟩
    · exact nomatch h
  · simp
  · rw [List.map_append, hM, take_snoc hn, List.map_append]
    simp only [List.map_cons, List.map_nil]
    congr 2
  · rw [adrs_app, List.nodup_append]
    refine ⟨hnd, ?_, ?_⟩
    · rw [adrs_cons]
      simp only [adrs, List.flatMap_nil, List.nodup_cons, List.mem_cons, List.not_mem_nil, or_false, not_false_eq_true, List.nodup_nil, and_true]
      exact Nat.ne_of_gt l2
    · intro b hb c hc
      have h1 := ltA b hb
      rw [adrs_cons] at hc
      simp only [adrs, List.flatMap_nil, List.mem_cons, List.not_mem_nil, or_false] at hc
      rcases hc with rfl | rfl
      · exact Nat.ne_of_lt (Nat.lt_trans h1 l2)
      · exact Nat.ne_of_lt h1
end
section
open LCg
variable {prog : Program} {w : World} {A : Around} {s : Shared} {h₀ : Heap} {L : Addr} {m : Str → Option Value} {env : Env}
/-- a comprehension over the suite that changes nothing -/
theorem rest_objs {elt : Expr} {x : Str} {scope : Scope} {cl : List (Str × Addr)} {S : List (Addr × Obj) → Prop} {Fin : List Value → List (Addr × Obj) → Prop} {H : Int} {es : List Ent} {nx₀ : List (Addr × Obj)} (g : Ent → Value) (hsub : ∀ p ∈ led H es, p ∈ nx₀)
    (turn : ∀ (e : Ent) ys I oI C oC D m₂ h tk (E' : Value → Shared → Prop), e ∈ es → NsObj oC m₂ → m₂ x = some (.ref e.x) → Fr h₀ L h m → News h₀ L h ((I, oI) :: (C, oC) :: (D, lst ys) :: (e.x, W.instObj 62 e.d) :: (e.d, valD H e.tk e.v) :: nx₀) → Off3 I C D nx₀ → ((@Ne Nat I C) ∧ (@Ne Nat I D) ∧ (@Ne Nat C D)) →
      wpAny (model prog w) A (eval elt (compEnvC scope cl C env)) (CompEnd h₀ L m { s with heap := h, toks := tk } I oI C oC D (lst ys) S (fun y nx' => nx' = nx₀ ∧ y = g e)) E' { s with heap := h, toks := tk })
    (fin : Fin (es.map g) nx₀) : CompRest prog w A h₀ L m env elt x scope cl s S (fun i v => (es.map fun e => Value.ref e.x).toArray[i]? = some v) Fin (es.map fun e => Value.ref e.x).toArray.size 0 [] nx₀ := by
  refine rest_grow (fun i ys nx => nx = nx₀ ∧ ys = (es.take i).map g) ?_ ?_ _ _ _ _ (Nat.zero_add _) ⟨rfl, rfl⟩
  · rintro i v ys nx I oI C oC D m₂ h tk E' hlt hP ⟨rfl, rfl⟩ hC hx F N off ne
    have hv : (es.map fun e => Value.ref e.x)[i]? = some v := by simpa using hP
    rw [List.getElem?_map] at hv
    obtain ⟨e, he, rfl⟩ := Option.map_eq_some_iff.mp hv
    have hm : e ∈ es := List.mem_of_getElem? he
    have hin : ∀ p ∈ Ent.two H e, p ∈ led H es := fun p hp => List.mem_flatMap.mpr ⟨e, hm, hp⟩
    refine wpAny_mono (turn e ((es.take i).map g) I oI C oC D m₂ h tk E' hm hC hx F (fun p hp => ?_) off ne) (fun y s' hq => ?_) fun _ _ e => e
    · simp only [List.mem_cons] at hp
      rcases hp with h | h | h | h | h | h
      · exact N p (by simp [h])
      · exact N p (by simp [h])
      · exact N p (by simp [h])
      · exact N p (by
          have := hsub p (hin p (by rw [h]; exact List.mem_cons_self))
          simp [this])
      · exact N p (by
          have := hsub p (hin p (by rw [h]; exact List.mem_cons_of_mem _ List.mem_cons_self))
          simp [this])
      · exact N p (by simp [h])
    · obtain ⟨h', tk', nx', e', F', N', off', hS', rfl, rfl⟩ := hq
      refine ⟨h', tk', nx', e', F', N', off', hS', rfl, ?_⟩
      rw [List.take_add_one, he]
      simp
  · rintro ys nx ⟨rfl, rfl⟩
    have : (es.take (es.map fun e => Value.ref e.x).toArray.size) = es := by simp
    rw [this]
    exact fin
end
end Mine
namespace Mine
def fillV (G n : Int) : Int := if n.fmod 4 = 3 then G + 1 else n
def fillG : Int → List Int → Int
  | G, [] => G
  | G, n :: r => fillG (max G (fillV G n)) r
def fills : Int → List Int → List Int
  | _, [] => []
  | G, n :: r => fillV G n :: fills (max G (fillV G n)) r
theorem fills_snoc (n : Int) : ∀ (a : List Int) (G : Int), fills G (a ++ [n]) = fills G a ++ [fillV (fillG G a) n]
  | [], _ => rfl
  | _ :: r, G => by simp only [List.cons_append, fills, fillG, fills_snoc n r]
theorem fillG_snoc (n : Int) : ∀ (a : List Int) (G : Int), fillG G (a ++ [n]) = max (fillG G a) (fillV (fillG G a) n)
  | [], _ => rfl
  | _ :: r, G => by simp only [List.cons_append, fillG, fillG_snoc n r]
theorem fills_length : ∀ (a : List Int) (G : Int), (fills G a).length = a.length
  | [], _ => rfl
  | _ :: r, G => by simp only [fills, List.length_cons, fills_length r]
theorem fillG_le : ∀ (a : List Int) (G : Int), G ≤ fillG G a ∧ ∀ v ∈ fills G a, v ≤ fillG G a
  | [], G => ⟨Int.le_refl _, fun _ h => nomatch h⟩
  | n :: r, G => by
    obtain ⟨h1, h2⟩ := fillG_le r (max G (fillV G n))
    refine ⟨?_, fun v hv => ?_⟩
    · simp only [fillG]; omega
    · simp only [fills] at hv
      simp only [fillG]
      rcases List.mem_cons.mp hv with rfl | hv
      · omega
      · exact h2 v hv
theorem fillG_mem : ∀ (a : List Int) (G : Int), fillG G a = G ∨ fillG G a ∈ fills G a
  | [], G => .inl rfl
  | n :: r, G => by
    simp only [fillG, fills]
    rcases fillG_mem r (max G (fillV G n)) with h | h
    · rw [h]
      rcases Int.le_total G (fillV G n) with q | q
      · rw [Int.max_eq_right q]; exact .inr List.mem_cons_self
      · rw [Int.max_eq_left q]; exact .inl rfl
    · exact .inr (List.mem_cons_of_mem _ h)
theorem great_is {a : List Int} {M : Int} (h1 : M ∈ [0] ++ fills 0 a) (h2 : ∀ v ∈ [0] ++ fills 0 a, v ≤ M) : M = fillG 0 a := by
  obtain ⟨g1, g2⟩ := fillG_le a 0
  have u : fillG 0 a ≤ M := by
    rcases fillG_mem a 0 with h | h
    · exact h2 _ (by rw [h]; simp)
    · exact h2 _ (List.mem_append.mpr (.inr h))
  have l : M ≤ fillG 0 a := by
    rcases List.mem_append.mp h1 with h | h
    · rw [List.mem_singleton.mp h]; exact g1
    · exact g2 _ h
  omega
def Ent.key (e : Ent) : Addr × Addr := (e.x, e.d)
theorem adrs_key (es : List Ent) : adrs es = (es.map Ent.key).flatMap fun k => [k.1, k.2] := by
  induction es with
  | nil => rfl
  | cons e r ih => rw [adrs_cons, ih]; rfl
section
variable {prog : Program} {w : World} {A : Around} {E : Value → Shared → Prop} {s : Shared} {env : Env} {h₀ : Heap} {x : Str} {body : List Stmt} {Q : Flow → Shared → Prop}
/-- the end of a turn that fills -/
def FillPost (h₀ : Heap) (L : Addr) (x g : Str) (m₀ : Str → Option Value) (H : Int) (I : Addr) (oI : Obj) (ex ed : Addr) (rest : List (Addr × Obj)) (N M : Int) (s₁ : Shared) (Q : Flow → Shared → Prop) (f : Flow) (s₂ : Shared) : Prop :=
  match f with
  | .ret v => Q (.ret v) s₂
  | .brk => Q .next s₂
  | _ => ∃ h' tk m' tM t₁ tN, s₂ = { s₁ with heap := h', toks := tk } ∧ Fr h₀ L h' m' ∧ m' g = some (.int M tM) ∧ (∀ z, z ≠ x → z ≠ g → m' z = m₀ z) ∧ News h₀ L h' ((ex, W.instObj 62 ed) :: (ed, valD H t₁ (.int N tN)) :: (I, oI) :: rest)
theorem FillPost.next {L : Addr} {g : Str} {m₀ m' : Str → Option Value} {H : Int} {I : Addr} {oI : Obj} {ex ed : Addr} {rest : List (Addr × Obj)} {N M M' : Int} {s₁ : Shared} {h' : Heap} {tk : Nat} {tM t₁ tN : Tok}
    (F : Fr h₀ L h' m') (N' : News h₀ L h' ((ex, W.instObj 62 ed) :: (ed, valD H t₁ (.int N tN)) :: (I, oI) :: rest)) (hg : m' g = some (.int M' tM)) (e : M' = M) (hz : ∀ z, z ≠ x → z ≠ g → m' z = m₀ z) :
    FillPost h₀ L x g m₀ H I oI ex ed rest N M s₁ Q .next { s₁ with heap := h', toks := tk } := ⟨h', tk, m', tM, t₁, tN, rfl, F, e ▸ hg, hz, N'⟩
theorem loop_fill {l : Addr} {H : Int} {es : List Ent} {ns : List Int} {nn : Nat} {m₀ : Str → Option Value} {g : Str} {t₀ : Tok}
    (hh : A.handled = none) (F : Fr h₀ env.locals s.heap m₀) (N : News h₀ env.locals s.heap ((l, W.listOf (es.map fun e => Value.ref e.x).toArray nn) :: led H es)) (hg : m₀ g = some (.int 0 t₀)) (hxg : x ≠ g)
    (hM : es.map Ent.num = ns.map bareOf) (hnd : (adrs es).Nodup) (hl : LCg.Off1 l (led H es))
    (turnN : ∀ ex ed tk₁ G tG h tk (I : Addr) oI rest, @Ne Nat ex ed → @Ne Nat I ed → (∀ p ∈ rest, p.1 ≠ ed) → Fr h₀ env.locals h (fun y => if y = x then some (.ref ex) else if y = g then some (.int G tG) else m₀ y) → News h₀ env.locals h ((ex, W.instObj 62 ed) :: (ed, valD H tk₁ (.ref 37)) :: (I, oI) :: rest) →
      wpAny (model prog w) A (execs body env) (FillPost h₀ env.locals x g m₀ H I oI ex ed rest (G + 1) (max G (G + 1)) { s with heap := h, toks := tk } Q) E { s with heap := h, toks := tk })
    (turnS : ∀ ex ed tk₁ G tG n t h tk (I : Addr) oI rest, @Ne Nat ex ed → @Ne Nat I ed → (∀ p ∈ rest, p.1 ≠ ed) → Fr h₀ env.locals h (fun y => if y = x then some (.ref ex) else if y = g then some (.int G tG) else m₀ y) → News h₀ env.locals h ((ex, W.instObj 62 ed) :: (ed, valD H tk₁ (.int n t)) :: (I, oI) :: rest) →
      wpAny (model prog w) A (execs body env) (FillPost h₀ env.locals x g m₀ H I oI ex ed rest n (max G n) { s with heap := h, toks := tk } Q) E { s with heap := h, toks := tk })
    (done : ∀ (es' : List Ent) (u : Str → Option Value) G t h tk, es'.map Ent.key = es.map Ent.key → es'.map Ent.num = (fills 0 ns).map some → Fr h₀ env.locals h (fun y => if y = x then u y else if y = g then some (.int G t) else m₀ y) → News h₀ env.locals h ((l, W.listOf (es'.map fun e => Value.ref e.x).toArray nn) :: led H es') → Q .next { s with heap := h, toks := tk }) :
    wpAny (model prog w) A (pyIter (.ref l)) (fun it s₂ => LoopAtV prog w A h₀ env x body Q E it s₂) E s := by
  have off1 : ∀ {D : Addr} {l : List (Addr × Obj)}, LCg.Off1 D l → ∀ p ∈ l, p.1 ≠ D := by
    intro D l
    induction l with
    | nil => exact fun _ p h => nomatch h
    | cons q r ih =>
      intro h p hp
      rcases List.mem_cons.mp hp with rfl | hp
      · exact h.1
      · exact ih h.2 p hp
  have hlA : ∀ b ∈ adrs es, b ≠ l := by
    intro b hb
    rw [← led_fst H] at hb
    obtain ⟨p, hp, rfl⟩ := List.mem_map.mp hb
    exact off1 hl p hp
  refine loop_grow (fun i m nx => (∃ t, m g = some (.int (fillG 0 (ns.take i)) t)) ∧ (∀ z, z ≠ x → z ≠ g → m z = m₀ z) ∧ ∃ es' : List Ent, nx = (l, W.listOf (es.map fun e => Value.ref e.x).toArray nn) :: led H es' ∧ es'.map Ent.key = es.map Ent.key ∧ es'.map Ent.num = (fills 0 (ns.take i)).map some ++ (ns.drop i).map bareOf)
    hh List.mem_cons_self F N ⟨⟨t₀, hg⟩, fun _ _ _ => rfl, es, rfl, rfl, hM⟩ ?_ ?_
  · rintro i v m₁ nx h tk oI hv ⟨⟨tG, hG⟩, hz, es', rfl, hk, hn⟩ _ hoff F₁ N₁
    rw [List.getElem?_map] at hv
    obtain ⟨e, he, rfl⟩ := Option.map_eq_some_iff.mp hv
    have hlen : es'.length = es.length := by have := congrArg List.length hk; simpa using this
    have hlenN : es.length = ns.length := by have := congrArg List.length hM; simpa using this
    have hi : i < es.length := (List.getElem?_eq_some_iff.mp he).1
    have hi' : i < es'.length := by omega
    obtain ⟨e', he'⟩ : ∃ e', es'[i]? = some e' := ⟨_, List.getElem?_eq_getElem hi'⟩
    have hke : e'.key = e.key := by
      have h1 : (es'.map Ent.key)[i]? = some e'.key := by rw [List.getElem?_map, he']; rfl
      have h2 : (es.map Ent.key)[i]? = some e.key := by rw [List.getElem?_map, he]; rfl
      rw [hk, h2] at h1
      exact (Option.some.inj h1).symm
    have hx' : e'.x = e.x := congrArg Prod.fst hke
    have hd' : e'.d = e.d := congrArg Prod.snd hke
    obtain ⟨n, hn'⟩ : ∃ n, ns[i]? = some n := ⟨_, List.getElem?_eq_getElem (by omega)⟩
    have hlf : (fills 0 (ns.take i)).length = i := by rw [fills_length, List.length_take]; omega
    have hnum : e'.num = bareOf n := by
      have h1 : (es'.map Ent.num)[i]? = some e'.num := by rw [List.getElem?_map, he']; rfl
      rw [hn, List.getElem?_append_right (by rw [List.length_map, hlf]; exact Nat.le_refl _), List.length_map, hlf, Nat.sub_self, List.getElem?_map, List.getElem?_drop, Nat.add_zero, hn'] at h1
      exact (Option.some.inj h1).symm
    have hsp : es' = es'.take i ++ e' :: es'.drop (i + 1) := by
      have : es'.drop i = e' :: es'.drop (i + 1) := by
        rw [List.drop_eq_getElem_cons hi']
        have := (List.getElem?_eq_some_iff.mp he').2
        rw [this]
      rw [← this, List.take_append_drop]
    generalize hpre : es'.take i = pre at hsp
    generalize hpost : es'.drop (i + 1) = post at hsp
    have hnd' : (adrs es').Nodup := by rw [adrs_key, hk, ← adrs_key]; exact hnd
    have hlA' : ∀ b ∈ adrs es', b ≠ l := by rw [adrs_key, hk, ← adrs_key]; exact hlA
    have hAe : adrs es' = adrs pre ++ e'.x :: e'.d :: adrs post := by rw [hsp, adrs_app, adrs_cons]
    rw [hAe] at hnd' hlA'
    have hnd2 := List.nodup_append.mp hnd'
    have hxd : e'.x ≠ e'.d := fun q => by
      have := hnd2.2.1
      rw [List.nodup_cons] at this
      exact this.1 (by rw [q]; exact List.mem_cons_self)
    have hdp : e'.d ∉ adrs post := by
      have := hnd2.2.1
      rw [List.nodup_cons, List.nodup_cons] at this
      exact this.2.1
    have hpd : ∀ b ∈ adrs pre, b ≠ e'.d := fun b hb => hnd2.2.2 b hb _ (List.mem_cons_of_mem _ List.mem_cons_self)
    have hld : l ≠ e'.d := Ne.symm (hlA' _ (List.mem_append.mpr (.inr (List.mem_cons_of_mem _ List.mem_cons_self))))
    generalize hrest : (l, W.listOf (es.map fun e => Value.ref e.x).toArray nn) :: (led H pre ++ led H post) = rest
    have hr : ∀ p ∈ rest, p.1 ≠ e'.d := by
      rw [← hrest]
      intro p hp
      rcases List.mem_cons.mp hp with rfl | hp
      · exact hld
      · rcases List.mem_append.mp hp with hp | hp
        · exact hpd _ (led_adr hp)
        · exact fun q => hdp (q ▸ led_adr hp)
    have hId : s.heap.objs.size ≠ e'.d := fun q => hoff (e'.d, valD H e'.tk e'.v) (by
      rw [hsp, led_app, led_cons]
      exact List.mem_cons_of_mem _ (List.mem_append.mpr (.inr (List.mem_cons_of_mem _ List.mem_cons_self)))) q.symm
    have F₂ : Fr h₀ env.locals h (fun y => if y = x then some (.ref e'.x) else if y = g then some (.int (fillG 0 (ns.take i)) tG) else m₀ y) := by
      have e1 : (fun y => if y = x then some (Value.ref e'.x) else if y = g then some (.int (fillG 0 (ns.take i)) tG) else m₀ y) = fun y => if y = x then some (.ref e.x) else m₁ y := by
        funext y
        by_cases hy : y = x
        · rw [if_pos hy, if_pos hy, hx']
        · rw [if_neg hy, if_neg hy]
          by_cases hy2 : y = g
          · rw [if_pos hy2, hy2, hG]
          · rw [if_neg hy2, hz y hy hy2]
      rw [e1]; exact F₁
    have N₂ : News h₀ env.locals h ((e'.x, W.instObj 62 e'.d) :: (e'.d, valD H e'.tk e'.v) :: (s.heap.objs.size, oI) :: rest) := by
      intro p hp
      refine N₁ p ?_
      rw [hsp, led_app, led_cons]
      rw [← hrest] at hp
      simp only [List.mem_cons, List.mem_append] at hp ⊢
      rcases hp with h | h | h | h | h | h <;> simp [h]
    have fin : ∀ (N M : Int) (s₂ : Shared), fillV (fillG 0 (ns.take i)) n = N → max (fillG 0 (ns.take i)) N = M → (∃ h' tk' m' tM t₁ tN, s₂ = { s with heap := h', toks := tk' } ∧ Fr h₀ env.locals h' m' ∧ m' g = some (.int M tM) ∧ (∀ z, z ≠ x → z ≠ g → m' z = m₀ z) ∧ News h₀ env.locals h' ((e'.x, W.instObj 62 e'.d) :: (e'.d, valD H t₁ (.int N tN)) :: (s.heap.objs.size, oI) :: rest)) →
        GrowEnd h₀ env.locals l (W.listOf (es.map fun e => Value.ref e.x).toArray nn) s.heap.objs.size oI (fun m nx => (∃ t, m g = some (.int (fillG 0 (ns.take (i + 1))) t)) ∧ (∀ z, z ≠ x → z ≠ g → m z = m₀ z) ∧ ∃ es' : List Ent, nx = (l, W.listOf (es.map fun e => Value.ref e.x).toArray nn) :: led H es' ∧ es'.map Ent.key = es.map Ent.key ∧ es'.map Ent.num = (fills 0 (ns.take (i + 1))).map some ++ (ns.drop (i + 1)).map bareOf) { s with heap := h, toks := tk } s₂ := by
      rintro N M s₂ hN hM' ⟨h', tk', m', tM, t₁, tN, rfl, F', hg', hz', N'⟩
      refine ⟨h', tk', m', (l, W.listOf (es.map fun e => Value.ref e.x).toArray nn) :: led H (pre ++ ⟨e'.x, e'.d, t₁, some (N, tN)⟩ :: post), rfl, F', ?_, List.mem_cons_self, ?_, ⟨tM, ?_⟩, hz', _, rfl, ?_, ?_⟩
      · intro p hp
        refine N' p ?_
        rw [led_app, led_cons] at hp
        rw [← hrest]
        simp only [List.mem_cons, List.mem_append] at hp ⊢
        rcases hp with h | h | h | h | h | h
        · simp [h]
        · simp [h]
        · simp [h]
        · simp [h]
        · exact .inr (.inl h)
        · simp [h]
      · intro p hp
        rcases List.mem_cons.mp hp with rfl | hp
        · exact hoff _ List.mem_cons_self
        · have hp1 := led_adr hp
          have e2 : adrs (pre ++ ⟨e'.x, e'.d, t₁, some (N, tN)⟩ :: post) = adrs es' := by rw [hAe, adrs_app, adrs_cons]
          rw [e2, ← led_fst H] at hp1
          obtain ⟨q, hq, e3⟩ := List.mem_map.mp hp1
          rw [← e3]
          exact hoff q (List.mem_cons_of_mem _ hq)
      · rw [take_snoc hn', fillG_snoc, hN, hM']; exact hg'
      · rw [← hk, hsp, List.map_append, List.map_append]; rfl
      · rw [take_snoc hn', fills_snoc, hN]
        have h1 : pre.map Ent.num = (fills 0 (ns.take i)).map some := by
          have := congrArg (List.take i) hn
          rw [← List.map_take, hpre, List.take_append_of_le_length (by rw [List.length_map, hlf]; exact Nat.le_refl _), ← List.map_take] at this
          rw [this, List.take_of_length_le (by omega)]
        have h2 : post.map Ent.num = (ns.drop (i + 1)).map bareOf := by
          have := congrArg (List.drop (i + 1)) hn
          rw [← List.map_drop, hpost, List.drop_append, List.length_map, hlf, ← List.map_drop] at this
          rw [this, List.drop_of_length_le (by omega)]
          have e4 : i + 1 - i = 1 := by omega
          rw [e4, ← List.map_drop, List.drop_drop]
          simp
        rw [List.map_append, List.map_cons, h1, h2, List.map_append]
        simp [Ent.num]
    cases ha : e'.a with
    | none =>
      have hb : n.fmod 4 = 3 := by
        have : bareOf n = none := by rw [← hnum]; unfold Ent.num; rw [ha]; rfl
        unfold bareOf at this
        split at this
        · assumption
        · cases this
      have hv' : e'.v = .ref 37 := by unfold Ent.v; rw [ha]
      rw [hv'] at N₂
      refine wpAny_mono (turnN e'.x e'.d e'.tk _ tG h tk s.heap.objs.size oI rest hxd hId hr F₂ N₂) (fun f s₂ p => ?_) fun _ _ e => e
      have hN : fillV (fillG 0 (ns.take i)) n = fillG 0 (ns.take i) + 1 := by unfold fillV; rw [if_pos hb]
      cases f with
      | ret v => exact p
      | brk => exact p
      | next => exact fin _ _ _ hN rfl p
      | cont => exact fin _ _ _ hN rfl p
    | some a =>
      obtain ⟨k, t⟩ := a
      have hb : n.fmod 4 ≠ 3 ∧ k = n := by
        have : bareOf n = some k := by rw [← hnum]; unfold Ent.num; rw [ha]; rfl
        unfold bareOf at this
        split at this
        · cases this
        · rename_i hne
          exact ⟨hne, (Option.some.inj this).symm⟩
      obtain ⟨hb, rfl⟩ := hb
      have hv' : e'.v = .int k t := by unfold Ent.v; rw [ha]
      rw [hv'] at N₂
      refine wpAny_mono (turnS e'.x e'.d e'.tk _ tG k t h tk s.heap.objs.size oI rest hxd hId hr F₂ N₂) (fun f s₂ p => ?_) fun _ _ e => e
      have hN : fillV (fillG 0 (ns.take i)) k = k := by unfold fillV; rw [if_neg hb]
      cases f with
      | ret v => exact p
      | brk => exact p
      | next => exact fin _ _ _ hN rfl p
      | cont => exact fin _ _ _ hN rfl p
  · rintro m₁ nx h tk ⟨⟨tG, hG⟩, hz, es', rfl, hk, hn⟩ _ F₁ N₁
    have hlenN : es.length = ns.length := by have := congrArg List.length hM; simpa using this
    rw [List.length_map, hlenN, List.take_length, List.drop_length, List.map_nil, List.append_nil] at hn
    have hrefs : (es'.map fun e => Value.ref e.x) = es.map fun e => Value.ref e.x := by
      have h1 : (es'.map fun e => Value.ref e.x) = (es'.map Ent.key).map fun k => Value.ref k.1 := by rw [List.map_map]; rfl
      have h2 : (es.map fun e => Value.ref e.x) = (es.map Ent.key).map fun k => Value.ref k.1 := by rw [List.map_map]; rfl
      rw [h1, hk, ← h2]
    refine done es' m₁ (fillG 0 (ns.take (es.map fun e => Value.ref e.x).length)) tG h tk hk hn ?_ (by rw [hrefs]; exact N₁)
    have e1 : (fun y => if y = x then m₁ y else if y = g then some (.int (fillG 0 (ns.take (es.map fun e => Value.ref e.x).length)) tG) else m₀ y) = m₁ := by
      funext y
      by_cases hy : y = x
      · rw [if_pos hy]
      · rw [if_neg hy]
        by_cases hy2 : y = g
        · rw [if_pos hy2, hy2, hG]
        · rw [if_neg hy2, hz y hy hy2]
    rw [e1]; exact F₁
end

section
variable {prog : Program} {w : World} {A : Around} {E : Value → Shared → Prop} {s : Shared} {env : Env} {h₀ : Heap} {x : Str} {body : List Stmt} {Q : Flow → Shared → Prop}
def BaseEnd (h₀ : Heap) (L : Addr) (I : Addr) (oI : Obj) (J : (Str → Option Value) → List (Addr × Obj) → Prop) (s₁ s₂ : Shared) : Prop :=
  ∃ h' tk m' nx, s₂ = { s₁ with heap := h', toks := tk } ∧ Fr h₀ L h' m' ∧ News h₀ L h' ((I, oI) :: nx) ∧ (∀ p ∈ nx, p.1 ≠ I) ∧ J m' nx
def BasePost (h₀ : Heap) (L : Addr) (I : Addr) (oI : Obj) (J : (Str → Option Value) → List (Addr × Obj) → Prop) (s₁ : Shared) (Q : Flow → Shared → Prop) (f : Flow) (s₂ : Shared) : Prop :=
  match f with
  | .ret v => Q (.ret v) s₂
  | .brk => Q .next s₂
  | _ => BaseEnd h₀ L I oI J s₁ s₂
/-- a loop over a list of the ground's, its invariant over a ledger that may grow -/
theorem loop_base {l : Addr} {vs : List Value} {m₀ : Str → Option Value} {news : List (Addr × Obj)} (J : Nat → (Str → Option Value) → List (Addr × Obj) → Prop)
    (hh : A.handled = none) (hl : h₀.IsList l vs.toArray) (F : Fr h₀ env.locals s.heap m₀) (N : News h₀ env.locals s.heap news) (hj : J 0 m₀ news)
    (turn : ∀ (i : Nat) v m₁ nx h tk oI, vs[i]? = some v → J i m₁ nx → (∀ p ∈ nx, p.1 ≠ s.heap.objs.size) → Fr h₀ env.locals h (fun y => if y = x then some v else m₁ y) → News h₀ env.locals h ((s.heap.objs.size, oI) :: nx) →
      wpAny (model prog w) A (execs body env) (BasePost h₀ env.locals s.heap.objs.size oI (J (i + 1)) { s with heap := h, toks := tk } Q) E { s with heap := h, toks := tk })
    (done : ∀ m₁ nx h tk, J vs.length m₁ nx → Fr h₀ env.locals h m₁ → News h₀ env.locals h nx → Q .next { s with heap := h, toks := tk }) :
    wpAny (model prog w) A (pyIter (.ref l)) (fun it s₂ => LoopAtV prog w A h₀ env x body Q E it s₂) E s := by
  obtain ⟨ol, hol₀, hlr⟩ := id hl
  have hol := F.keep _ _ hol₀
  have hls : s.heap.IsList l vs.toArray := ⟨_, hol, hlr⟩
  have hne : l ≠ s.heap.objs.size := Nat.ne_of_lt (Heap.lt_size hol)
  have hlt : ∀ p ∈ news, p.1 ≠ s.heap.objs.size := fun p hp => Nat.ne_of_lt (Heap.lt_size (N p hp).1)
  refine wpAny_pyIter_list hls ?_
  have WK := Walks.list (prog := prog) (w := w) hh s.heap.objs.size l hne vs.toArray
  refine ⟨_, _, _, vs.toArray.size, _, _, m₀, news, (fun i m nx => J i m nx), rfl, WK, ?_, ?_, ?_, ⟨⟨_, Heap.get?_push_size _ rfl, rfl, rfl⟩, hls.at fun o e => Heap.get?_push_of_some _ e⟩, F.push _, (fun p hp => ⟨Heap.get?_push_of_some _ (N p hp).1, (N p hp).2⟩), hj, ?_, ?_⟩
  · intro hm
    rcases List.mem_cons.mp hm with e | hm
    · exact absurd F.ns.lt (e ▸ Nat.lt_irrefl _)
    · have e := List.mem_singleton.mp hm
      have h1 := Heap.lt_size hol₀
      have h2 := F.above
      rw [e] at h2
      exact absurd (Nat.lt_of_lt_of_le h1 h2) (Nat.lt_irrefl _)
  · intro b hb
    rw [List.mem_singleton.mp hb]
    exact next_is_new F
  · intro p hp hI
    exact hlt p hp (List.mem_singleton.mp hI)
  · rintro i v m₁ nx s₁ own ⟨h, tk, rfl⟩ hin hP hJ hoff hown hget hfp hst F₁ N₁
    obtain ⟨oI, hoI, _⟩ := hst.1
    have hI : (s.heap.objs.size, oI) ∈ own := hfp _ (List.mem_cons_self) (next_is_new F) oI hoI
    have hoff' : ∀ p ∈ nx, p.1 ≠ s.heap.objs.size := fun p hp e => hoff p hp (by rw [e]; exact List.mem_cons_self)
    have N₂ : News h₀ env.locals h ((s.heap.objs.size, oI) :: nx) := fun p hp => N₁ p (by
      rcases List.mem_cons.mp hp with hp | hp
      · rw [hp]; exact List.mem_append.mpr (.inl hI)
      · exact List.mem_append.mpr (.inr hp))
    have hP' : vs[i]? = some v := by simpa using hP
    refine wpAny_mono (turn i v m₁ nx h tk oI hP' hJ hoff' F₁ N₂) (fun f s₂ p => ?_) fun _ _ e => e
    have fin : BaseEnd h₀ env.locals s.heap.objs.size oI (J (i + 1)) { s with heap := h, toks := tk } s₂ →
        LoopStepU h₀ env.locals [s.heap.objs.size] own (fun m nx => J (i + 1) m nx) { s with heap := h, toks := tk } .next s₂ := by
      rintro ⟨h', tk', m', nx', e, F', N', ho', hJ'⟩
      refine ⟨rfl, h', tk', m', nx', e, F', fun p hp => ?_, fun p hp hq => ho' p hp (List.mem_singleton.mp hq), hJ'⟩
      rcases List.mem_append.mp hp with hp | hp
      · have hg : h.get? p.1 = some p.2 := hget p hp
        rcases List.mem_cons.mp (hown p hp) with e1 | e1
        · have : p = (s.heap.objs.size, oI) := Prod.ext e1 (by rw [e1] at hg; exact Option.some.inj (hg.symm.trans hoI))
          rw [this]
          exact N' _ List.mem_cons_self
        · have e2 := List.mem_singleton.mp e1
          have h3 := (N₁ p (List.mem_append.mpr (.inl hp))).2.2
          rw [e2, hol₀] at h3
          cases h3
      · exact N' p (List.mem_cons_of_mem _ hp)
    cases f with
    | ret v => exact .ret p
    | brk => exact .brk p
    | next => exact .next (fin p)
    | cont => exact .cont (fin p)
  · rintro h' tk m' nx F' N' _ hJ
    exact done m' nx h' tk (by simpa using hJ) F' N'
/-- the end of a turn of due -/
def DuePost (h₀ : Heap) (L : Addr) (x : Str) (m₀ : Str → Option Value) (I : Addr) (oI : Obj) (dl : Addr) (old : List (Addr × Obj)) (ds : List Int) (s₁ : Shared) (Q : Flow → Shared → Prop) (f : Flow) (s₂ : Shared) : Prop :=
  match f with
  | .ret v => Q (.ret v) s₂
  | .brk => Q .next s₂
  | _ => ∃ h' tk m' arr nn, s₂ = { s₁ with heap := h', toks := tk } ∧ Fr h₀ L h' m' ∧ (∀ z, z ≠ x → m' z = m₀ z) ∧ IntsAre (Array.toList arr) ds ∧ News h₀ L h' ((dl, W.listOf arr nn) :: (I, oI) :: old)
theorem DuePost.next {L : Addr} {m₀ m' : Str → Option Value} {I : Addr} {oI : Obj} {dl : Addr} {old all : List (Addr × Obj)} {ds : List Int} {arr : Array Value} {nn : Nat} {s₁ : Shared} {h' : Heap} {tk : Nat}
    (F : Fr h₀ L h' m') (N' : News h₀ L h' all) (sub : ∀ p ∈ (dl, W.listOf arr nn) :: (I, oI) :: old, p ∈ all) (hi : IntsAre arr.toList ds) (hz : ∀ z, z ≠ x → m' z = m₀ z) :
    DuePost h₀ L x m₀ I oI dl old ds s₁ Q .next { s₁ with heap := h', toks := tk } := ⟨h', tk, m', arr, nn, rfl, F, hz, hi, fun p hp => N' p (sub p hp)⟩
theorem loop_due {l dl : Addr} {vs : List Value} {ns : List Int} {nn : Nat} {m₀ : Str → Option Value} {old : List (Addr × Obj)}
    (hh : A.handled = none) (hl : h₀.IsList l vs.toArray) (hi : IntsAre vs ns) (F : Fr h₀ env.locals s.heap m₀) (N : News h₀ env.locals s.heap ((dl, W.listOf #[] nn) :: old)) (hdl : ∀ p ∈ old, p.1 ≠ dl)
    (turn : ∀ (pre : List Int) n t us nn h tk (I : Addr) oI, pre ++ [n] <+: ns → us.length ≤ ns.length → us.length = pre.length → IntsAre us (fills 0 pre) → @Ne Nat dl I → (∀ p ∈ old, p.1 ≠ I) → Fr h₀ env.locals h (fun y => if y = x then some (.int n t) else m₀ y) → News h₀ env.locals h ((dl, W.listOf us.toArray nn) :: (I, oI) :: old) →
      wpAny (model prog w) A (execs body env) (DuePost h₀ env.locals x m₀ I oI dl old (fills 0 (pre ++ [n])) { s with heap := h, toks := tk } Q) E { s with heap := h, toks := tk })
    (done : ∀ us nn (u : Str → Option Value) h tk, us.length = ns.length → IntsAre us (fills 0 ns) → Fr h₀ env.locals h (fun y => if y = x then u y else m₀ y) → News h₀ env.locals h ((dl, W.listOf us.toArray nn) :: old) → Q .next { s with heap := h, toks := tk }) :
    wpAny (model prog w) A (pyIter (.ref l)) (fun it s₂ => LoopAtV prog w A h₀ env x body Q E it s₂) E s := by
  have hlen := hi.length
  refine loop_base (fun i m nx => (∀ z, z ≠ x → m z = m₀ z) ∧ ∃ us nn, IntsAre us (fills 0 (ns.take i)) ∧ nx = (dl, W.listOf us.toArray nn) :: old) hh hl F N ⟨fun _ _ => rfl, [], nn, .nil, rfl⟩ ?_ ?_
  · rintro i v m₁ nx h tk oI hv ⟨hz, us, nn, hus, rfl⟩ hoff F₁ N₁
    obtain ⟨n, t, rfl, hn⟩ := IntsAre.at hi i v hv
    have hil : i < ns.length := (List.getElem?_eq_some_iff.mp hn).1
    have hul : us.length = i := by rw [hus.length, fills_length, List.length_take]; omega
    have F₂ : Fr h₀ env.locals h (fun y => if y = x then some (.int n t) else m₀ y) := by
      have e1 : (fun y => if y = x then some (Value.int n t) else m₀ y) = fun y => if y = x then some (.int n t) else m₁ y := by
        funext y
        by_cases hy : y = x
        · rw [if_pos hy, if_pos hy]
        · rw [if_neg hy, if_neg hy, hz y hy]
      rw [e1]; exact F₁
    refine wpAny_mono (turn (ns.take i) n t us nn h tk s.heap.objs.size oI (by rw [← take_snoc hn]; exact List.take_prefix _ _) (by omega) (by rw [List.length_take]; omega) hus (hoff _ List.mem_cons_self) (fun p hp => hoff p (List.mem_cons_of_mem _ hp)) F₂ (fun p hp => N₁ p (by
      simp only [List.mem_cons] at hp ⊢
      rcases hp with h | h | h <;> simp [h]))) (fun f s₂ p => ?_) fun _ _ e => e
    have fin : (∃ h' tk' m' arr nn, s₂ = { s with heap := h', toks := tk' } ∧ Fr h₀ env.locals h' m' ∧ (∀ z, z ≠ x → m' z = m₀ z) ∧ IntsAre (Array.toList arr) (fills 0 (ns.take i ++ [n])) ∧ News h₀ env.locals h' ((dl, W.listOf arr nn) :: (s.heap.objs.size, oI) :: old)) →
        BaseEnd h₀ env.locals s.heap.objs.size oI (fun m nx => (∀ z, z ≠ x → m z = m₀ z) ∧ ∃ us nn, IntsAre us (fills 0 (ns.take (i + 1))) ∧ nx = (dl, W.listOf us.toArray nn) :: old) { s with heap := h, toks := tk } s₂ := by
      rintro ⟨h', tk', m', arr, nn', rfl, F', hz', hi', N'⟩
      obtain ⟨us'⟩ := arr
      refine ⟨h', tk', m', _, rfl, F', ?_, ?_, hz', us', nn', by rw [take_snoc hn]; exact hi', rfl⟩
      · intro p hp
        refine N' p ?_
        simp only [List.mem_cons] at hp ⊢
        rcases hp with h | h | h <;> simp [h]
      · intro p hp
        rcases List.mem_cons.mp hp with rfl | hp
        · exact hoff (dl, W.listOf us.toArray nn) List.mem_cons_self
        · exact hoff p (List.mem_cons_of_mem _ hp)
    cases f with
    | ret v => exact p
    | brk => exact p
    | next => exact fin p
    | cont => exact fin p
  · rintro m₁ nx h tk ⟨hz, us, nn, hus, rfl⟩ F₁ N₁
    have e2 : ns.take vs.length = ns := List.take_of_length_le (by omega)
    rw [e2] at hus
    refine done us nn m₁ h tk (by rw [hus.length, fills_length]) hus ?_ N₁
    have e1 : (fun y => if y = x then m₁ y else m₀ y) = m₁ := by
      funext y
      by_cases hy : y = x
      · rw [if_pos hy]
      · rw [if_neg hy, hz y hy]
    rw [e1]; exact F₁
theorem due_ints {pre : List Int} {n : Int} {us : List Value} {v : Int} {t : Tok} (hi : IntsAre us (fills 0 pre)) (hv : v = fillV (fillG 0 pre) n) : IntsAre (us.toArray.push (.int v t)).toList (fills 0 (pre ++ [n])) := by
  rw [List.push_toArray]
  show IntsAre (us ++ [.int v t]) _
  rw [fills_snoc, ← hv]
  clear hv
  revert hi
  generalize fills 0 pre = l
  intro hi
  induction hi with
  | nil => exact .cons _ _ .nil
  | cons k t' r ih => exact .cons _ _ ih
theorem due_bare {pre : List Int} {n M : Int} (h : n.fmod 4 = 3) (h1 : M ∈ [0] ++ fills 0 pre) (h2 : ∀ v ∈ [0] ++ fills 0 pre, v ≤ M) : 1 + M = fillV (fillG 0 pre) n := by
  unfold fillV
  rw [if_pos h, great_is h1 h2]
  omega
theorem due_own {pre : List Int} {n : Int} (h : n.fmod 4 ≠ 3) : n = fillV (fillG 0 pre) n := by
  unfold fillV
  rw [if_neg h]
end
end Mine
namespace Mine
abbrev hashV (w : World) : Int := PyData.keyHash w.params (Str.ofString "value")
theorem bare_none {n : Int} (h : n.fmod 4 = 3) : (none : Option (Int × Tok)).map (·.1) = bareOf n := by unfold bareOf; rw [if_pos h]; rfl
theorem bare_some {n : Int} {t : Tok} (h : n.fmod 4 ≠ 3) : (some (n, t)).map (·.1) = bareOf n := by unfold bareOf; rw [if_neg h]; rfl
section
open LCg
variable {prog : Program} {w : World} {A : Around} {s : Shared} {h₀ : Heap} {L : Addr} {m : Str → Option Value} {env : Env}
theorem rest_suite {elt : Expr} {x : Str} {scope : Scope} {cl : List (Str × Addr)} {S : List (Addr × Obj) → Prop} {Fin : List Value → List (Addr × Obj) → Prop} {vs : List Value} {ns : List Int} (hi : IntsAre vs ns)
    (turn : ∀ i n t ys nx I oI C oC D m₂ h tk (E' : Value → Shared → Prop), ns[i]? = some n → Suite (hashV w) ns i ys nx → NsObj oC m₂ → m₂ x = some (.int n t) → Fr h₀ L h m → News h₀ L h ((I, oI) :: (C, oC) :: (D, lst ys) :: nx) → Off3 I C D nx → ((@Ne Nat I C) ∧ (@Ne Nat I D) ∧ (@Ne Nat C D)) →
      wpAny (model prog w) A (eval elt (compEnvC scope cl C env)) (CompEnd h₀ L m { s with heap := h, toks := tk } I oI C oC D (lst ys) S (fun y nx' => Suite (hashV w) ns (i + 1) (ys ++ [y]) nx')) E' { s with heap := h, toks := tk })
    (fin : ∀ es : List Ent, es.map Ent.num = ns.map bareOf → (adrs es).Nodup → es.length = ns.length → Fin (es.map fun e => Value.ref e.x) (led (hashV w) es)) : CompRest prog w A h₀ L m env elt x scope cl s S (fun i v => vs.toArray[i]? = some v) Fin vs.toArray.size 0 [] [] := by
  refine rest_ints hi (Suite (hashV w) ns) (Suite.start _ _) turn ?_
  rintro ys nx ⟨es, rfl, rfl, hM, hnd⟩
  rw [List.take_length] at hM
  exact fin es hM hnd (by have := congrArg List.length hM; simpa using this)
theorem rest_bools {elt : Expr} {x : Str} {scope : Scope} {cl : List (Str × Addr)} {S : List (Addr × Obj) → Prop} {Fin : List Value → List (Addr × Obj) → Prop} {vs : List Value} {ns : List Int} {nx₀ : List (Addr × Obj)} (f : Int → Bool) (hi : IntsAre vs ns)
    (turn : ∀ n t ys I oI C oC D m₂ h tk (E' : Value → Shared → Prop), NsObj oC m₂ → m₂ x = some (.int n t) → Fr h₀ L h m → News h₀ L h ((I, oI) :: (C, oC) :: (D, lst ys) :: nx₀) → Off3 I C D nx₀ → ((@Ne Nat I C) ∧ (@Ne Nat I D) ∧ (@Ne Nat C D)) →
      wpAny (model prog w) A (eval elt (compEnvC scope cl C env)) (CompEnd h₀ L m { s with heap := h, toks := tk } I oI C oC D (lst ys) S (fun y nx' => nx' = nx₀ ∧ y = Value.bool (f n))) E' { s with heap := h, toks := tk })
    (fin : Fin (ns.map fun n => Value.bool (f n)) nx₀) : CompRest prog w A h₀ L m env elt x scope cl s S (fun i v => vs.toArray[i]? = some v) Fin vs.toArray.size 0 [] nx₀ := by
  refine rest_ints hi (fun i ys nx => nx = nx₀ ∧ ys = (ns.take i).map fun n => Value.bool (f n)) ⟨rfl, rfl⟩ ?_ ?_
  · rintro i n t ys nx I oI C oC D m₂ h tk E' hn ⟨rfl, rfl⟩ hC hx F N off ne
    refine wpAny_mono (turn n t ((ns.take i).map fun n => Value.bool (f n)) I oI C oC D m₂ h tk E' hC hx F N off ne) (fun y s' hq => ?_) fun _ _ e => e
    obtain ⟨h', tk', nx', e', F', N', off', hS', rfl, rfl⟩ := hq
    refine ⟨h', tk', nx', e', F', N', off', hS', rfl, ?_⟩
    rw [take_snoc hn]
    simp
  · rintro ys nx ⟨rfl, rfl⟩
    rw [List.take_length]
    exact fin
variable {I C D : Addr} {oI oC oD : Obj} {s₁ : Shared} {S : List (Addr × Obj) → Prop} {h' : Heap} {tk : Nat} {nx : List (Addr × Obj)}
theorem objs_end {q₁ q₂ : Addr × Obj} {y y' : Value} (F : Fr h₀ L h' m) (N : News h₀ L h' ((I, oI) :: (C, oC) :: (D, oD) :: q₁ :: q₂ :: nx)) (off : Off3 I C D nx) (hS : S nx) (e : y = y') :
    CompEnd h₀ L m s₁ I oI C oC D oD S (fun y nx' => nx' = nx ∧ y = y') y { s₁ with heap := h', toks := tk } :=
  CompEnd.intro F N nx (fun p hp => by
    simp only [List.mem_cons] at hp ⊢
    rcases hp with h | h | h | h <;> simp [h]) off hS ⟨rfl, e⟩
theorem ints_end {y y' : Value} (F : Fr h₀ L h' m) (N : News h₀ L h' ((I, oI) :: (C, oC) :: (D, oD) :: nx)) (off : Off3 I C D nx) (hS : S nx) (e : y = y') :
    CompEnd h₀ L m s₁ I oI C oC D oD S (fun y nx' => nx' = nx ∧ y = y') y { s₁ with heap := h', toks := tk } :=
  CompEnd.intro F N nx (fun p hp => hp) off hS ⟨rfl, e⟩
end
section
variable {prog : Program} {w : World} {A : Around} {E : Value → Shared → Prop} {s : Shared} {a b : Addr} {Q : Value → Shared → Prop} {h₀ : Heap} {L : Addr} {news : List (Addr × Obj)} {es : List Ent} {ns : List Int} {na nb : Nat}
theorem news_list {vs : List Value} (N : News h₀ L s.heap news) (h : (a, W.listOf vs.toArray na) ∈ news) : s.heap.IsList a vs.toArray := ⟨_, (N _ h).1, rfl, _, rfl⟩
theorem forget {h : Heap} (_N : News h₀ L h news) : News h₀ L h [] := fun _ hp => nomatch hp
theorem size_ok {f : Ent → Value} (h : es.map Ent.num = (fills 0 ns).map some) (hl : ¬ ((63 : Nat) : Int) < (ns.length : Int)) : (es.map f).toArray.size ≤ sizeLine := by
  have e := congrArg List.length h
  rw [List.length_map, List.length_map, fills_length] at e
  rw [List.size_toArray, List.length_map, sizeLine_eq, e]
  omega
theorem drop1 {h : Heap} {p : Addr × Obj} (N : News h₀ L h (p :: news)) : News h₀ L h news := fun q hq => N q (.tail _ hq)
theorem ne_marks (N : News h₀ L s.heap news) (ha : (a, W.listOf (es.map fun e => Value.bool e.a.isNone).toArray na) ∈ news) (hb : (b, W.listOf (ns.map fun n => Value.bool (decide (n.fmod 4 = 3))).toArray nb) ∈ news) (hM : es.map Ent.num = ns.map bareOf) (hu : A.units + 64 < cLine) (h : Q (.bool false) s) :
    wpAny (model prog w) A (compareOp .NotEq (.ref a) (.ref b)) Q E s := by
  refine ne_bools (bs := es.map fun e => e.a.isNone) (cs := ns.map fun n => decide (n.fmod 4 = 3)) ?_ ?_ ?_ hu h
  · rw [List.map_map]; exact news_list N ha
  · rw [List.map_map]; exact news_list N hb
  · have e1 : (es.map fun e => e.a.isNone) = (es.map Ent.num).map Option.isNone := by
      rw [List.map_map]
      refine List.map_congr_left fun e _ => ?_
      simp [Ent.num]
    rw [e1, hM, List.map_map]
    refine List.map_congr_left fun n _ => ?_
    simp only [Function.comp, bareOf]
    split <;> simp [*]
theorem vals_ints {ds : List Int} : ∀ {es : List Ent} {ds : List Int}, es.map Ent.num = ds.map some → IntsAre (es.map Ent.v) ds
  | [], [], _ => .nil
  | [], _ :: _, h => by simp at h
  | _ :: _, [], h => by simp at h
  | e :: r, d :: q, h => by
    simp only [List.map_cons, List.cons.injEq] at h
    obtain ⟨h1, h2⟩ := h
    cases ha : e.a with
    | none => simp [Ent.num, ha] at h1
    | some p =>
      obtain ⟨k, t⟩ := p
      have hk : k = d := by simpa [Ent.num, ha] using h1
      subst hk
      have hv : e.v = .int k t := by unfold Ent.v; rw [ha]
      rw [List.map_cons, hv]
      exact .cons _ _ (vals_ints (ds := []) h2)
theorem ne_vals {us : List Value} {ds : List Int} (N : News h₀ L s.heap news) (ha : (a, W.listOf (es.map Ent.v).toArray na) ∈ news) (hb : (b, W.listOf us.toArray nb) ∈ news) (h1 : es.map Ent.num = ds.map some) (h2 : IntsAre us ds) (hu : A.units + 64 < cLine) (h : Q (.bool false) s) :
    wpAny (model prog w) A (compareOp .NotEq (.ref a) (.ref b)) Q E s :=
  ke_ne_ints (news_list N ha) (news_list N hb) (vals_ints (ds := []) h1) h2 hu (by simpa using h)
theorem some_of {e : Ent} {ds : List Int} (h : es.map Ent.num = ds.map some) (he : e ∈ es) : ∃ k t, e.a = some (k, t) := by
  have : e.num ∈ ds.map some := h ▸ List.mem_map_of_mem he
  obtain ⟨k, _, hk⟩ := List.mem_map.mp this
  cases ha : e.a with
  | none => simp [Ent.num, ha] at hk
  | some p => exact ⟨p.1, p.2, rfl⟩
end
end Mine
namespace Mine
open Builtin Builtin.Str
set_option maxRecDepth 100000
/-- the text of an auto -/
abbrev autoText (X : PySem.Str) : PySem.Str := PySem.Str.ofString "auto(" ++ X ++ PySem.Str.ofString ")"
abbrev fmtA : PySem.Str := ⟨#[97, 117, 116, 111, 40, 37, 114, 41]⟩
theorem fmtA_is : PySem.Str.ofString "auto(%r)" = fmtA := by decide +kernel
section
variable {M : Model} {A : Around} {E : Value → Shared → Prop} {s : Shared}
set_option maxHeartbeats 4000000 in
theorem percent_auto {t : Tok} {v : Value} {Q : Fin → Shared → Prop}
    (h1 : ∀ Q' : Bool → Shared → Prop, Q' false s → wpAny M A (isInstance v (.type "tuple")) Q' E s)
    (h2 : ∀ Q' : Option PySem.Str → Shared → Prop, (∀ o, Q' o s) → wpAny M A (asStr? v) Q' E s)
    (h3 : ∀ Q' : Bool → Shared → Prop, (∀ b, Q' b s) → wpAny M A (fillsMappingSlot v) Q' E s)
    (hr : ∀ b, b ≤ 5 → wpAny M A (pyReprObjUnder b v) (fun r s' => ∃ X u, r = .str X u ∧ X.length ≤ 1000 ∧ ∀ t' k, Q (.done (.ret (.str (autoText X) t'))) { s' with toks := k }) E s) :
    wpAny M A (percentFormat (.str fmtA t) fmtA v) Q E s := by
  unfold Builtin.Str.percentFormat
  refine wpAny_bind (h1 _ ?_)
  refine wpAny_bind (h2 _ ?_)
  intro _
  refine wpAny_bind (h3 _ ?_)
  intro _
  kpc_if
  refine wpAny_bind (wpAny_pure ?_)
  refine wpAny_bind ?_
  rw [KPc.range_list]
  refine KPc.start ?_
  intro w0 g0
  refine KPc.turn ?_
  kpc_check
  (repeat kpc_if)
  refine wpAny_pure ?_
  kpc_piece
  rename_i w1 g1
  refine KPc.turn ?_
  kpc_check
  (repeat kpc_if)
  refine wpAny_bind ?_
  refine wpAny_holding ?_
  (repeat kpc_if)
  refine wpAny_bind ?_
  (repeat kpc_if)
  refine wpAny_mono (hr w1.total (by first | exact g1.total | (have := g1.total; omega))) (fun r s' hq => ?_) fun _ _ e => e
  obtain ⟨X, u, rfl, hX, hq⟩ := hq
  refine wpAny_bind (wpAny_of_eq (a := some _) rfl ?_)
  refine wpAny_pure ?_
  refine wpAny_pure ?_
  refine KPc.after_str (by kpc_g) hX (by kpc_obj) ?_
  intro w2 g2
  refine KPc.turn ?_
  kpc_check
  (repeat kpc_if)
  refine wpAny_pure ?_
  kpc_piece
  refine KPc.turn ?_
  kpc_check
  (repeat kpc_if)
  refine wpAny_pure ?_
  kpc_if
  refine KPc.finish_ok (by kpc_g) (by decide +kernel) rfl ?_
  exact hq
end

section
variable {M : Model} {A : Around} {E : Value → Shared → Prop} {s : Shared}
theorem bin1_mod {X : PySem.Str} {t : Tok} {v τ : Value} {Q : Option Value → Shared → Prop} (hty : ∀ Q' : Value → Shared → Prop, Q' τ s → wpAny M A (typeOf v) Q' E s) (hne : (Value.type "str" == τ) = false)
    (hfU : ∀ Q' : Bool → Shared → Prop, Q' false s → wpAny M A (fillsNumberSlot τ "mod") Q' E s)
    (hc : wpAny M A (call (.builtin "str.__mod__") [.str X t, v]) (fun r s' => r ≠ .notImplemented ∧ Q (some r) s') E s) : wpAny M A (binaryOp1 "mod" (.str X t) v) Q E s := by
  simp only [binaryOp1]
  refine wpAny_bind (wpAny_typeOf (typeIs_str s X t) (wpAny_bind (hty _ (wpAny_bind (wpAny_of_eq F.fills_str_mod ?_)))))
  simp only [hne, Bool.false_eq_true, if_false]
  refine wpAny_bind (hfU _ ?_)
  simp only [if_true, pure_bind, Bool.and_false, Bool.false_and, Bool.false_eq_true, if_false]
  refine wpAny_bind (wpAny_tryMethod_slot (typeIs_str s X t) F.slot_str_mod (wpAny_mono hc (fun v s' h' => ⟨h'.1, wpAny_pure h'.2⟩) fun _ _ h' => h'))
theorem bin_mod {X : PySem.Str} {t : Tok} {v τ : Value} {Q : Value → Shared → Prop} (hty : ∀ Q' : Value → Shared → Prop, Q' τ s → wpAny M A (typeOf v) Q' E s) (hne : (Value.type "str" == τ) = false)
    (hfU : ∀ Q' : Bool → Shared → Prop, Q' false s → wpAny M A (fillsNumberSlot τ "mod") Q' E s)
    (hc : wpAny M A (call (.builtin "str.__mod__") [.str X t, v]) (fun r s' => r ≠ .notImplemented ∧ Q r s') E s) : wpAny M A (binaryOp .Mod (.str X t) v) Q E s := by
  rcases hi : Operator.Mod.info with ⟨sym, nm⟩
  have e : nm = "mod" := by have := congrArg Prod.snd hi; exact this.symm
  subst e
  simp only [binaryOp, hi]
  try with_reducible refine wpAny_holding ?_
  exact wpAny_bind (bin1_mod hty hne hfU (wpAny_mono hc (fun v s' h' => ⟨h'.1, wpAny_pure h'.2⟩) fun _ _ h' => h'))
end
section
variable {prog : Program} {w : World} {A : Around} {E : Value → Shared → Prop} {s : Shared}
/-- str.__mod__ called: its body walked -/
theorem call_mod {X : PySem.Str} {t : Tok} {v : Value} {Q : Value → Shared → Prop}
    (h : wpAny (model prog w) A.in1 («str.__mod__» ⟨[.str X t, v], []⟩) (fun fin s' => ∃ r, fin = .done (.ret r) ∧ Q r s') E s) :
    wpAny (model prog w) A (call (.builtin "str.__mod__") [.str X t, v]) Q E s := by
  refine wpAny_call (codeAny_call_builtin F.slot_str_mod.plain F.entry_str_mod (F.slot_str_mod.check _ _ _ _ _ _ _ _ (typeIs_str s X t) (F.args_str_mod_2 _ _) ?_))
  refine wpAny_mono h (fun fin s' hf => ?_) fun _ _ e => e
  obtain ⟨r, rfl, hq⟩ := hf
  exact hq
theorem entry_none (F : PySem.Str) (t : Tok) : «str.__mod__» ⟨[.str F t, .none], []⟩ = percentFormat (.str F t) F .none := by kernel_rfl
/-- what comes back of an own __repr__ -/
def AutoBack (Q : Value → Shared → Prop) (v : Value) (s' : Shared) : Prop := ∃ X u, v = .str X u ∧ X.length ≤ 1000 ∧ ∀ t' k, Q (.str (autoText X) t') { s' with toks := k }
theorem AutoBack.intro {Q : Value → Shared → Prop} {X : PySem.Str} {u : Tok} {s' : Shared} (hl : X.length ≤ 1000) (h : ∀ t' k, Q (.str (autoText X) t') { s' with toks := k }) : AutoBack Q (.str X u) s' := ⟨X, u, rfl, hl, h⟩
theorem mod_of {t : Tok} {v : Value} {Q : Value → Shared → Prop} (he : «str.__mod__» ⟨[.str fmtA t, v], []⟩ = percentFormat (.str fmtA t) fmtA v)
    (h1 : ∀ Q' : Bool → Shared → Prop, Q' false s → wpAny (model prog w) A.in1 (isInstance v (.type "tuple")) Q' E s)
    (h2 : ∀ Q' : Option PySem.Str → Shared → Prop, (∀ o, Q' o s) → wpAny (model prog w) A.in1 (asStr? v) Q' E s)
    (h3 : ∀ Q' : Bool → Shared → Prop, (∀ b, Q' b s) → wpAny (model prog w) A.in1 (fillsMappingSlot v) Q' E s)
    (hr : ∀ b, b ≤ 5 → wpAny (model prog w) A.in1 (pyReprObjUnder b v) (AutoBack Q) E s) :
    wpAny (model prog w) A (call (.builtin "str.__mod__") [.str fmtA t, v]) (fun r s' => r ≠ .notImplemented ∧ Q r s') E s := by
  refine call_mod ?_
  rw [he]
  refine percent_auto h1 h2 h3 fun b hb => wpAny_mono (hr b hb) (fun r s' hq => ?_) fun _ _ e => e
  obtain ⟨X, u, rfl, hX, hq⟩ := hq
  exact ⟨X, u, rfl, hX, fun t' k => ⟨_, rfl, (fun e => nomatch e), hq t' k⟩⟩
theorem under_leaf {b : Nat} {v : Value} {T id : String} {Q : Value → Shared → Prop} (hT : s.TypeIs v T) (hsl : SlotG T (Str.ofString "__repr__") id) (hno : reprUnder? (.builtin id) = none)
    (hp : wpAny (model prog w) A (call (.builtin id) [v]) (fun v s' => (∃ x u, v = .str x u) ∧ Q v s') E s) (hu : A.units < cLine) : wpAny (model prog w) A (pyReprObjUnder b v) Q E s := by
  unfold pyReprObjUnder pyReprObjBy
  refine wpAny_bind (wpAny_cRoomFor hu ?_)
  refine wpAny_bind (wpAny_specialOf (name := Str.ofString "__repr__") hT hsl.lookup ?_)
  refine wpAny_bind (wpAny_callSpecialIfBoundBy?_slotG (name := Str.ofString "__repr__") hT hsl ?_)
  simp only [hno]
  refine wpAny_mono hp (fun v s' hv => ?_) fun _ _ x => x
  obtain ⟨⟨x, u, rfl⟩, hq⟩ := hv
  exact wpAny_bind (wpAny_isInstance (T := "str") (b := true) rfl isSubtype_str_str (wpAny_pure hq))
end

theorem fills_none : fillsNumberSlot (.type "NoneType") "mod" = pure false := by
  have a : typeLookup (.type "NoneType") (PySem.dunder "mod") = pure none := by rw [typeLookup_type, builtinLookup_eq_fast]; kernel_rfl
  have b : typeLookup (.type "NoneType") (PySem.dunderR "mod") = pure none := by rw [typeLookup_type, builtinLookup_eq_fast]; kernel_rfl
  unfold fillsNumberSlot
  simp [a, b]
theorem fills_list : fillsNumberSlot (.type "list") "mod" = pure false := by
  have a : typeLookup (.type "list") (PySem.dunder "mod") = pure none := by rw [typeLookup_type, builtinLookup_eq_fast]; kernel_rfl
  have b : typeLookup (.type "list") (PySem.dunderR "mod") = pure none := by rw [typeLookup_type, builtinLookup_eq_fast]; kernel_rfl
  unfold fillsNumberSlot
  simp [a, b]
theorem sub_none_tuple : isSubtype (.type "NoneType") (.type "tuple") = pure false := by rw [isSubtype_type]; kernel_rfl
theorem sub_list_tuple : isSubtype (.type "list") (.type "tuple") = pure false := by rw [isSubtype_type]; kernel_rfl
theorem map_none : ∃ b, fillsMappingSlot .none = pure b := by
  have e : specialOf .none "__getitem__" = typeLookup (.type "NoneType") "__getitem__" := rfl
  have l : typeLookup (.type "NoneType") "__getitem__" = pure none := by rw [typeLookup_type, builtinLookup_eq_fast]; kernel_rfl
  unfold fillsMappingSlot
  rw [e, l]
  exact ⟨_, rfl⟩
section
variable {prog : Program} {w : World} {A : Around} {E : Value → Shared → Prop} {s : Shared} {t u : Tok} {Q : Value → Shared → Prop}
theorem mod_none (hu : A.in1.units < cLine) (h : ∀ t' k, Q (.str (autoText (Str.ofString "None")) t') { s with toks := k }) : wpAny (model prog w) A (binaryOp .Mod (.str (Str.ofString "auto(%r)") t) .none) Q E s := by
  rw [fmtA_is]
  refine bin_mod (τ := .type "NoneType") (fun Q' q => wpAny_typeOf (typeIs_none s) q) (by decide) (fun Q' q => wpAny_of_eq fills_none q) ?_
  refine mod_of (entry_none _ _) (fun Q' q => wpAny_isInstance (typeIs_none s) sub_none_tuple q) (fun Q' q => wpAny_of_eq (a := none) rfl (q _)) (fun Q' q => ?_) ?_
  · obtain ⟨b, e⟩ := map_none
    exact wpAny_of_eq e (q b)
  · intro b _
    refine under_leaf (typeIs_none s) F.slot_NoneType_repr.toG rfl ?_ hu
    refine call_gives F.slot_NoneType_repr (typeIs_none s) F.entry_NoneType_repr (F.args_NoneType_repr_1 _) gives_none_repr ⟨by decide, ?_⟩
    exact ⟨⟨_, _, rfl⟩, AutoBack.intro (by decide +kernel) fun t' k => h t' k⟩
theorem mod_int {n : Int} (hd : n.natAbs.log2 < 1920) (hl : (Str.ofString (toString n)).length ≤ 1000) (h : ∀ t' k, Q (.str (autoText (Str.ofString (toString n))) t') { s with toks := k }) : wpAny (model prog w) A (binaryOp .Mod (.str (Str.ofString "auto(%r)") t) (.int n u)) Q E s := by
  refine KPc.mod_lit fmtA_is hd (fun _ _ => ?_) h
  refine Meets.of_wp fun prog w A _ s hS => ?_
  rw [KPc.entry_is]
  refine percent_auto (fun Q' q => wpAny_isInstance (typeIs_int _ _ _) F.sub_int_tuple q) (fun Q' q => wpAny_of_eq (a := none) rfl (q _)) (fun Q' q => wpAny_of_eq (KPc.fills _ _) (q _)) ?_
  intro b _
  unfold pyReprObjUnder pyReprObjBy
  simp only [cRoomFor, List.any_cons, Value.onHeap, List.any_nil, Bool.or_false, Bool.false_eq_true, if_false, pure_bind]
  refine wpAny_bind (wpAny_specialOf (name := Str.ofString "__repr__") (typeIs_int _ _ _) F.slot_int_repr.lookup ?_)
  refine wpAny_bind (wpAny_callSpecialIfBoundBy?_slotG (name := Str.ofString "__repr__") (typeIs_int _ _ _) F.slot_int_repr.toG ?_)
  show wpAny _ _ (call (.builtin "int.__repr__") [.int n u]) _ _ _
  refine call_gives F.slot_int_repr (typeIs_int _ _ _) F.entry_int_repr (F.args_int_repr_1 _) (gives_int_repr _ _ hd) ⟨int_text_fits hd, ?_⟩
  refine wpAny_bind (wpAny_isInstance (T := "str") (b := true) rfl isSubtype_str_str (wpAny_pure ?_))
  exact ⟨_, _, rfl, hl, fun t' k => ⟨_, rfl, hS t' k⟩⟩
theorem mod_str {x : PySem.Str} (hl : (reprText x).length ≤ 1000) (h : ∀ t' k, Q (.str (autoText (reprText x)) t') { s with toks := k }) : wpAny (model prog w) A (binaryOp .Mod (.str (Str.ofString "auto(%r)") t) (.str x u)) Q E s := by
  rw [fmtA_is]
  refine binaryOp_meets (T := "str") (op := .Mod) (S := fun _ R s => ∀ t' k, R (.ok (.ret (.str (autoText (reprText x)) t'))) { s with toks := k }) (typeIs_str s _ t) (typeIs_str s x u) F.fills_str_mod F.slot_str_mod F.entry_str_mod (F.args_str_mod_2 _ _) ?_ (fun t' k => ⟨(fun e => nomatch e), h t' k⟩)
  refine Meets.of_wp fun prog w A _ s hS => ?_
  rw [KPc.entry_is_s]
  refine percent_auto (fun Q' q => wpAny_isInstance (typeIs_str _ _ _) F.sub_str_tuple q) (fun Q' q => wpAny_of_eq (a := some _) rfl (q _)) (fun Q' q => KPc.wp_fills_str q) ?_
  intro b _
  unfold pyReprObjUnder pyReprObjBy
  simp only [cRoomFor, List.any_cons, Value.onHeap, List.any_nil, Bool.or_false, Bool.false_eq_true, if_false, pure_bind]
  refine wpAny_bind (wpAny_specialOf (name := Str.ofString "__repr__") (typeIs_str _ _ _) F.slot_str_repr.lookup ?_)
  refine wpAny_bind (wpAny_callSpecialIfBoundBy?_slotG (name := Str.ofString "__repr__") (typeIs_str _ _ _) F.slot_str_repr.toG ?_)
  show wpAny _ _ (call (.builtin "str.__repr__") [.str x u]) _ _ _
  refine call_gives F.slot_str_repr (typeIs_str _ _ _) F.entry_str_repr (F.args_str_repr_1 _) (gives_str_repr _ _) ⟨by rw [sizeLine_eq]; exact Nat.le_trans hl (by decide), ?_⟩
  refine wpAny_bind (wpAny_isInstance (T := "str") (b := true) rfl isSubtype_str_str (wpAny_pure ?_))
  exact ⟨_, _, rfl, hl, fun t' k => ⟨_, rfl, hS t' k⟩⟩
end

section
variable {prog : Program} {w : World} {A : Around} {E : Value → Shared → Prop} {s : Shared} {t : Tok} {Q : Value → Shared → Prop} {h₀ : Heap} {L : Addr} {m : Str → Option Value} {news : List (Addr × Obj)}
theorem map_list {a : Addr} {Q' : Bool → Shared → Prop} (hT : s.TypeIs (.ref a) "list") (h : ∀ b, Q' b s) : wpAny (model prog w) A (fillsMappingSlot (.ref a)) Q' E s := by
  unfold fillsMappingSlot
  refine wpAny_bind (wpAny_specialOf hT F.slot_list_getitem.lookup ?_)
  exact wpAny_pure (h _)
theorem mod_list {a b : Addr} {t0 : Tok} {na nb : Nat} (hu : A.in1.units + 3 < cLine) (hg : A.guards = some []) (F₁ : Fr h₀ L s.heap m) (N : News h₀ L s.heap news)
    (ha : (a, ({ cls := .type "list", data := .seq [Value.int 0 t0, .ref b].toArray na } : Obj)) ∈ news) (hb : (b, ({ cls := .type "tuple", data := .seq [Value.none].toArray nb } : Obj)) ∈ news) (hab : a ≠ b)
    (h : ∀ h' t' k, Fr h₀ L h' m → News h₀ L h' news → Q (.str (autoText (Str.ofString "[0, (None,)]")) t') { s with heap := h', toks := k }) :
    wpAny (model prog w) A (binaryOp .Mod (.str (Str.ofString "auto(%r)") t) (.ref a)) Q E s := by
  rw [fmtA_is]
  have ga := (N _ ha).1
  have gb := (N _ hb).1
  have hT : s.TypeIs (.ref a) "list" := ⟨_, ga, rfl⟩
  refine bin_mod (τ := .type "list") (fun Q' q => wpAny_typeOf hT q) (by decide) (fun Q' q => wpAny_of_eq fills_list q) ?_
  refine mod_of (KPt.entry_is_r _ _ _) (fun Q' q => wpAny_isInstance hT sub_list_tuple q) (fun Q' q => KPt.asStr_ref ga rfl (q _)) (fun Q' q => map_list hT q) ?_
  intro base hbase
  have kb : ReprK prog w [b] s.heap 1 (.ref b) (tupleText [Str.ofString "None"]) :=
    ReprK.tuple (as := []) (d := 0) gb rfl rfl (fun hm => nomatch hm) (ReprAllK.cons (.of_is ReprIs.none _ _ _) ReprAllK.nil)
  have e : listText [Str.ofString (toString (0 : Int)), tupleText [Str.ofString "None"]] = Str.ofString "[0, (None,)]" := by decide +kernel
  refine wpAny_pyReprObjUnder_listK (as := [b]) (h₀ := s.heap) (d := 1) (g := []) (ts := [Str.ofString (toString (0 : Int)), tupleText [Str.ofString "None"]]) ga rfl rfl (fun hm => hab (List.mem_singleton.mp hm)) rfl ?_ hg (fun b _ => Clear.nil b) (by omega) (fun _ _ e => e) ?_ ?_
  · intro i y hy
    match i, hy with
    | 0, hy =>
      have : y = Value.int 0 t0 := (Option.some.inj hy).symm
      subst this
      exact ⟨_, rfl, .of_is (ReprIs.int t0 (by decide +kernel)) _ _ _⟩
    | 1, hy =>
      have : y = .ref b := (Option.some.inj hy).symm
      subst this
      exact ⟨_, rfl, kb⟩
    | n + 2, hy => simp at hy
  · intro h' u tk hk
    rw [e]
    exact AutoBack.intro (by decide +kernel) fun t' k => h h' t' k (F₁.keeps hk) (N.grown hk)
  · rw [e, sizeLine_eq]
    have : (Str.ofString "[0, (None,)]").length = 12 := by decide +kernel
    omega
end
section
variable {prog : Program} {w : World} {A : Around} {E : Value → Shared → Prop} {s : Shared} {t : Tok} {Q : Value → Shared → Prop} {h₀ : Heap} {L : Addr} {m : Str → Option Value} {K : Frag} {x C f : Addr} {ox : Obj} {od : Option Obj}
theorem entry_ref (F : PySem.Str) (a : Addr) (t : Tok) : «str.__mod__» ⟨[.str F t, .ref a], []⟩ = percentFormat (.str F t) F (.ref a) := KPt.entry_is_r F a t
def clearMod (K : Frag) (C : Addr) : Bool := (clsIn K C).any fun cd => cd.mro == [.ref C, .type "object"]
theorem fills_own {M : Model} {h : Heap} (X : K.In h) (hm : clearMod K C = true) (h1 : findIn K (.ref C) (PySem.dunder "mod") = some none) (h2 : findIn K (.ref C) (dunderR "mod") = some none) : Looks M h (fillsNumberSlot (.ref C) "mod") false := by
  obtain ⟨cd, hc, hm⟩ := any_some hm
  have hm := eq_of_beq hm
  intro A Q E s k q
  obtain ⟨hh, g, d, tt, os⟩ := s
  have X' : K.In hh := X.keeps k
  have L1 : Looks M hh (typeLookup (.ref C) (PySem.dunder "mod")) none := looks_findIn X' h1
  have L2 : Looks M hh (typeLookup (.ref C) (dunderR "mod")) none := looks_findIn X' h2
  have a : typeLookup (.type "object") (PySem.dunder "mod") = pure none := by rw [typeLookup_type, builtinLookup_eq_fast]; kernel_rfl
  have b : typeLookup (.type "object") (PySem.dunderR "mod") = pure none := by rw [typeLookup_type, builtinLookup_eq_fast]; kernel_rfl
  unfold fillsNumberSlot
  refine wpAny_bind ((looks_clsIn X hc).andThen (f := fun cd => pure cd.mro) .now A _ E _ k ?_)
  rw [hm, List.anyM_cons]
  refine wpAny_bind ?_
  show wpAny M A (List.anyM _ [PySem.dunder "mod", dunderR "mod"]) _ _ _
  rw [List.anyM_cons]
  refine wpAny_bind (wpAny_bind (L1.at ?_))
  dsimp only
  refine wpAny_pure ?_
  rw [if_neg (by decide), List.anyM_cons]
  refine wpAny_bind (wpAny_bind (L2.at ?_))
  dsimp only
  refine wpAny_pure ?_
  rw [if_neg (by decide), List.anyM_nil]
  refine wpAny_pure ?_
  rw [if_neg (by decide), List.anyM_cons]
  simp only [a, b, pure_bind, Option.isSome_none, Bool.false_and, Bool.or_false, Bool.false_eq_true, if_false, List.anyM_nil]
  exact wpAny_pure q
theorem ifBoundBy_K {M : Model} {last : Value → List Value → Sem Value} {name : Str} {Q : Option Value → Shared → Prop} (X : K.In s.heap) (I : InstAt s.heap x ox C od) (hs : findIn K (.ref C) name = some (some (.ref f))) (hf : isFn K (.ref f) = true)
    (h : wpAny M A (last (.ref f) [.ref x]) (fun v => Q (some v)) E s) : wpAny M A (callSpecialIfBoundBy? last (.ref x) name) Q E s := by
  simp only [callSpecialIfBoundBy?, bindSpecialIfBound?]
  refine wpAny_holding (wpAny_bind (wpAny_bind (wpAny_bind (I.type.here ((looks_findIn X hs).here ?_)))))
  refine wpAny_bind (wpAny_askSetting (wpAny_ite ?_))
  have fin : wpAny M A (last (.ref f) [.ref x] >>= fun v => pure (some v)) Q E s := wpAny_bind (wpAny_mono h (fun v s' h' => wpAny_pure h') fun _ _ h' => h')
  split
  · exact wpAny_bind ((bind_fn X _ (beq_iff_eq.mp hf)).here (wpAny_pure (by exact fin)))
  · exact wpAny_tryCatch (wpAny_bind ((bind_fn X _ (beq_iff_eq.mp hf)).here (wpAny_pure (by exact fin))))
set_option maxHeartbeats 1000000 in
theorem mod_own (hu : A.in1.units < cLine) (F₁ : Fr h₀ L s.heap m) (X₀ : K.In h₀) (I : InstAt s.heap x ox C od) (hd : ox.data = .plain) (hm : clearMod K C = true)
    (h1 : findIn K (.ref C) (PySem.dunder "mod") = some none) (h2 : findIn K (.ref C) (dunderR "mod") = some none) (h3 : findIn K (.ref C) "__getitem__" = some none) (h4 : subIn K (.ref C) (.type "tuple") = some false)
    (hs : findIn K (.ref C) "__repr__" = some (some (.ref f))) (hf : isFn K (.ref f) = true)
    (h : wpAny (model prog w) A.in1 (call (.ref f) [.ref x]) (AutoBack Q) E s) :
    wpAny (model prog w) A (binaryOp .Mod (.str (Str.ofString "auto(%r)") t) (.ref x)) Q E s := by
  rw [fmtA_is]
  have X := X₀.keeps F₁.keep
  refine bin_mod (τ := .ref C) (fun Q' q => I.type.here q) rfl (fun Q' q => (fills_own X hm h1 h2).here q) ?_
  refine mod_of (KPt.entry_is_r _ _ _) (fun Q' q => ?_) (fun Q' q => ?_) (fun Q' q => ?_) ?_
  · unfold isInstance
    exact wpAny_bind (I.type.here ((looks_subIn X h4).here q))
  · simp only [asStr?]
    refine wpAny_bind (wpAny_load I.at_ ?_)
    rw [hd]
    exact wpAny_pure (q _)
  · unfold fillsMappingSlot specialOf
    refine wpAny_bind (wpAny_bind (I.type.here ((looks_findIn X h3).here ?_)))
    exact wpAny_pure (q _)
  · intro b _
    unfold pyReprObjUnder pyReprObjBy
    refine wpAny_bind (wpAny_cRoomFor hu ?_)
    refine wpAny_bind (wpAny_bind (I.type.here ((looks_findIn X hs).here ?_)))
    rw [if_neg (by simp)]
    refine wpAny_bind (ifBoundBy_K X I hs hf ?_)
    show wpAny _ _ (call (.ref f) [.ref x]) _ _ _
    refine wpAny_mono h (fun r s' hr => ?_) fun _ _ e => e
    obtain ⟨Y, u, rfl, hY, hq⟩ := hr
    exact wpAny_bind (wpAny_isInstance (T := "str") (b := true) rfl isSubtype_str_str (wpAny_pure ⟨Y, u, rfl, hY, hq⟩))
end
end Mine
local macro_rules | `(tactic| k_all) => `(tactic| first | assumption | exact Mine.allLt_ne (by assumption))
local macro_rules | `(tactic| walk_at "exec Assign cons ListComp") => `(tactic| (k_here; k_dflt (refine LCg.Assign_ListComp_U (F₀ := by k_asm) (by rfl) (by with_unfolding_all rfl) (by with_unfolding_all rfl) (by decide) (by rfl) (by decide) (by rfl) (by rfl) (by rfl) ?_); k_dflt lcg_toSrc))
local macro_rules | `(tactic| walk_at "CompSrc IfExp") => `(tactic| (k_here; k_dflt (refine LCg.CompSrc.base (by rfl) (by k_asm) (by k_asm) (by assumption) (by first | size_fits | exact Nat.le_of_ble_eq_true rfl) ?_); intro g'; (refine Mine.rest_suite (by assumption) ?_ ?_); (rotate_left 1; intro sEs sM sNd sLen; rotate_left 1; intro tI tN tTk tYs tNx tA oA tC oC tD m2 h' tk' tE hP hT hC' hx' F' N' off' ne')))
local macro_rules | `(tactic| walk_at "CompEnd ref") => `(tactic| (((rename News _ _ _ _ => nE'); (rename Fr _ _ _ _ => fE'); with_unfolding_all (first
  | refine Mine.suite_end none fE' nE' (by assumption) (by assumption) (by assumption) (fun _ => Or.inl (by assumption)) (by assumption) (by assumption) (Mine.bare_none (by assumption))
  | refine Mine.suite_end (some (_, _)) fE' nE' (by assumption) (by assumption) (by assumption) (fun _ => Or.inl (by assumption)) (by assumption) (by assumption) (Mine.bare_some (by assumption))))))
local macro_rules | `(tactic| walk_at "eval ListComp Compare") => `(tactic| (k_here; k_dflt (refine LCg.ListComp_U (F₀ := by k_asm) (by with_unfolding_all rfl) (by decide) (by rfl) (by decide) (by rfl) ?_); k_dflt lcg_toSrc))
local macro_rules | `(tactic| walk_at "CompSrc Compare") => `(tactic| (k_here; k_dflt (first
  | (refine LCg.CompSrc.ledger (by rfl) (by k_asm) (by k_asm) (by k_mem) (by rw [List.size_toArray, List.length_map, sizeLine_eq]; omega) ?_; intro g'; (refine Mine.rest_objs (fun e => Value.bool e.a.isNone) (fun p hp => List.mem_cons_of_mem _ hp) ?_ ?_); (intro tEn tYs tA oA tC oC tD m2 h' tk' tE hMem hC' hx' F' N' off' ne'; (rcases tEn with ⟨ex', ed', et', _ | ⟨en', ek'⟩⟩ <;> (simp only [Mine.Ent.v, Option.isNone_none, Option.isNone_some] at N' hx' ⊢))))
  | (refine LCg.CompSrc.base (by rfl) (by k_asm) (by k_asm) (by assumption) (by first | size_fits | exact Nat.le_of_ble_eq_true rfl) ?_; intro g'; (refine Mine.rest_bools (fun n => decide (n.fmod 4 = 3)) (by assumption) ?_ ?_); (intro tN tTk tYs tA oA tC oC tD m2 h' tk' tE hC' hx' F' N' off' ne')))))
local macro_rules | `(tactic| walk_at "CompEnd bool") => `(tactic| (((rename News _ _ _ _ => nE'); (rename Fr _ _ _ _ => fE'); with_unfolding_all (first
  | refine Mine.ints_end fE' nE' (by assumption) (by lcg_src) (by first | rfl | (simp only [*]; done))
  | refine Mine.objs_end fE' nE' (by assumption) (by lcg_src) (by first | rfl | (simp only [*]; done))))))
local macro_rules | `(tactic| walk_at "compareOp NotEq ref ref") => `(tactic| (k_here; with_unfolding_all (refine Mine.ne_marks (by k_asm) (by k_mem) (by k_mem) (by assumption) (by ke_room) ?_)))
local macro_rules | `(tactic| walk_at "compareOp Is int ref") => `(tactic| (k_here; refine wpAny_is_other (by rfl) (by intro x; cases x) ?_))
local macro_rules | `(tactic| walk_at "exec For") => `(tactic| (k_here; with_unfolding_all ((rename Fr _ _ _ _ => F'); (refine For_invVF F' (by rfl) (by rfl) ?_))))
local macro_rules | `(tactic| walk_at "pyIter ref") => `(tactic| (k_here; (rename Fr _ _ _ _ => lF'); (rename News _ _ _ _ => lN'); (with_unfolding_all (refine' Mine.loop_fill (g := Str.ofString "greatest") (by rfl) lF' (by first | exact lN' | exact fun p hp => lN' p (.tail _ hp) | exact fun p hp => lN' p (.tail _ (.tail _ hp)) | exact fun p hp => lN' p (.tail _ (.tail _ (.tail _ hp)))) (by rfl) (by decide) (by assumption) (by assumption) (by assumption) ?_ ?_ ?_)); (rotate_left 2; (intro sEs sU sG sGt h' tk' sK sNum F' N'; (clear lF' lN'); (try k_fold)); rotate_left 1; (intro ex' ed' et' sG sGt h' tk' sI sO sRest sne1 sne2 sne3 F' N'; (clear lF' lN'); (try k_fold)); rotate_left 1; (intro ex' ed' et' sG sGt en' ek' h' tk' sI sO sRest sne1 sne2 sne3 F' N'; (clear lF' lN'); (try k_fold)); rotate_left 1)))
local macro_rules | `(tactic| walk_at "FillPost") => `(tactic| ((rename News _ _ _ _ => nE'); (rename Fr _ _ _ _ => fE'); with_unfolding_all (refine Mine.FillPost.next fE' nE' (by rfl) (by omega) (by intro z h1 h2; (first | (rw [if_neg h2, if_neg h1, if_neg h2]) | (simp only [h1, h2, if_false]))))))
local macro_rules | `(tactic| walk_at "pyIter ref") => `(tactic| (k_here; (rename Fr _ _ _ _ => lF'); (rename News _ _ _ _ => lN'); (with_unfolding_all (refine' Mine.loop_due (by rfl) (by assumption) (by assumption) lF' lN' (by k_all) ?_ ?_)); (rotate_left 1; (intro sUs sN sU h' tk' sLen sInts F' N'; (clear lF' lN'); (try k_fold)); rotate_left 1; (intro sPre tN tTk sUs sN h' tk' sI sO sPx sL1 sL2 sInts sne1 sne2 F' N'; (clear lF' lN'); (try k_fold)))))
local macro_rules | `(tactic| walk_at "DuePost") => `(tactic| ((rename News _ _ _ _ => nE'); (rename Fr _ _ _ _ => fE'); with_unfolding_all (refine Mine.DuePost.next fE' nE' (by first | exact fun p hp => hp | exact fun p hp => .tail _ hp | exact fun p hp => .tail _ (.tail _ hp) | exact fun p hp => .tail _ (.tail _ (.tail _ hp))) (by first | exact Mine.due_ints (by assumption) (Mine.due_bare (by assumption) (by assumption) (by assumption)) | exact Mine.due_ints (by assumption) (Mine.due_own (by assumption))) (by intro z h1; first | rfl | (rw [if_neg h1]) | (simp only [h1, if_false])))))
local macro_rules | `(tactic| walk_at "eval ListComp Attribute") => `(tactic| (k_here; k_dflt (refine LCg.ListComp_U (F₀ := by k_asm) (by with_unfolding_all rfl) (by decide) (by rfl) (by decide) (by rfl) ?_); k_dflt lcg_toSrc))
local macro_rules | `(tactic| walk_at "CompSrc Attribute") => `(tactic| (k_here; k_dflt (
  (refine LCg.CompSrc.ledger (by rfl) (by k_asm) (by k_asm) (by k_mem) (Mine.size_ok (by assumption) (by assumption)) ?_; intro g'; (refine Mine.rest_objs Mine.Ent.v (fun p hp => List.mem_cons_of_mem _ (List.mem_cons_of_mem _ hp)) ?_ ?_); (intro tEn tYs tA oA tC oC tD m2 h' tk' tE hMem hC' hx' F' N' off' ne'; (obtain ⟨en', ek', hA'⟩ := Mine.some_of (by assumption) hMem); (rcases tEn with ⟨ex', ed', et', ea'⟩; subst hA'; simp only [Mine.Ent.v] at N' hx' ⊢))))))
local macro_rules | `(tactic| walk_at "CompEnd int") => `(tactic| (((rename News _ _ _ _ => nE'); (rename Fr _ _ _ _ => fE'); with_unfolding_all (refine Mine.objs_end fE' nE' (by assumption) (by lcg_src) (by rfl)))))
local macro_rules | `(tactic| walk_at "compareOp NotEq ref ref") => `(tactic| (k_here; with_unfolding_all (refine Mine.ne_vals (by k_asm) (by k_mem) (by k_mem) (by assumption) (by assumption) (by ke_room) ?_); (rename News _ _ _ _ => lN'); (have N' := Mine.forget lN'); (clear lN')))
local macro_rules | `(tactic| walk_at "compareOp Eq ref ref") => `(tactic| (k_here; with_unfolding_all (refine Mine.eq_strs (Mine.news_list (by k_asm) (by k_mem)) (Mine.news_list (by k_asm) (by k_mem)) (by ke_room) (.cons rfl (.cons rfl (.cons rfl (.cons rfl (.cons rfl .nil))))) (.cons (by decide +kernel) (.cons (by decide +kernel) (.cons (by decide +kernel) (.cons (by decide +kernel) (.cons rfl .nil))))) (Mine.ok_cons (by decide +kernel) (Mine.ok_cons (by decide +kernel) (Mine.ok_cons (by decide +kernel) (Mine.ok_cons (by decide +kernel) (Mine.ok_cons (Mine.strOk_app _ _ (Mine.strOk_app _ _ (Mine.strOk_ofString _) (Mine.strOk_ofString _)) (Mine.strOk_ofString _)) Mine.ok_nil))))) ?_)))
local macro_rules | `(tactic| walk_at "call builtin:list.append") => `(tactic| (k_here; (with_reducible show wpAny _ _ (call (Value.builtin _) [Value.ref _, _]) _ _ _); (rename News _ _ _ _ => nE'); (have nF' := Mine.drop1 nE'); k_dflt (refine' append_K ?k1 nF' ?k3 ?_ ?z; (case k1 => k_asm); (case k3 => k_upd); (case z => size_fits); k_whole); intro h' F' N'; (clear nE' nF'); (try k_sweep)))
local macro_rules | `(tactic| walk_at "binaryOp Mod str none") => `(tactic| (k_here; k_dflt (refine Mine.mod_none (by k_units) ?_); intro t' k'))
local macro_rules | `(tactic| walk_at "binaryOp Mod str int") => `(tactic| (k_here; k_dflt (refine Mine.mod_int ?kd ?kl ?_; (case kd => exact shown (N := 2 ^ 1920) (by kpc_fact) (by kpc_fact) (Int.le_refl _)); (case kl => exact Nat.le_trans (toString_length_le (k := 10) (by kpc_fact) (by decide) (by kpc_fact)) (by decide))); intro t' k'))
local macro_rules | `(tactic| walk_at "binaryOp Mod str str") => `(tactic| (k_here; k_dflt (refine Mine.mod_str (by decide +kernel) ?_); intro t' k'))
local macro_rules | `(tactic| walk_at "binaryOp Mod str ref") => `(tactic| (k_here; k_dflt (first
  | (refine' Mine.mod_own ?k0 ?k1 ?k2 ?k3 ?kd ?k4 ?k5 ?k6 ?k7 ?k8 ?k9 ?k10 ?_; (case k0 => k_units); (case k1 => k_asm); (case k2 => k_asm); (case k3 => k_inst); (case kd => rfl); (case k4 => kernel_rfl); (case k5 => k_is); (case k6 => k_is); (case k7 => k_is); (case k8 => k_is); (case k9 => k_is); (case k10 => k_is); k_whole)
  | (refine' Mine.mod_list ?k0 ?kg ?k1 ?k2 ?k3 ?k4 ?k5 ?_; (case k0 => exact Nat.le_of_ble_eq_true rfl); (case kg => with_unfolding_all rfl); (case k1 => k_asm); (case k2 => k_asm); (case k3 => k_mem); (case k4 => k_mem); (case k5 => k_ne); k_whole; intro h' t' k' F' N'; (try k_sweep)))))
local macro_rules | `(tactic| walk_at "AutoBack") => `(tactic| (refine Mine.AutoBack.intro (by decide +kernel) ?_; intro t' k'; (try dsimp only)))
local macro_rules | `(tactic| walk_at "CompEnd str") => `(tactic| (((rename News _ _ _ _ => nE'); (rename Fr _ _ _ _ => fE'); (refine LCg.CompEnd.intro fE' nE' _ (fun p hp => hp) ?ko ?ks ?_); (case ko => first | assumption | (simp only [LCg.Off3, and_true]; assumption)); (case ks => lcg_src))))
set_option maxRecDepth 100000 in
set_option maxHeartbeats 16000000 in
theorem PySem.Challenge.cw_dm0103_10_holds : PySem.Challenge.rw_dm0103_10.Holds := by
  open_k
