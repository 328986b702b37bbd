import PyProof.Rows.All
import Wide.All
import OpenK.AllK
import Wide.FinOn
import PySem.Challenge.RW_dm0103_02
open PySem PySem.W PyProof.Rows
set_option Elab.async false
namespace Mine
open PySem.Builtin.Int (intBits)
section
variable {prog : Program} {w : World} {A : Around} {E : Value → Shared → Prop} {s : Shared}
theorem ins_ints {h₀ : Heap} {L D : Addr} {m : Str → Option Value} {news news' : List (Addr × Obj)} {vs : List Value} {ns : List Int} {n : Nat} {k x : Int} {u t : Tok} {Q : Value → Shared → Prop}
    (F : Fr h₀ L s.heap m) (N : News h₀ L s.heap news) (U : Upd D (W.listOf vs.toArray n) (W.listOf (vs.take k.toNat ++ .int x t :: vs.drop k.toNat).toArray (n + 1)) news news')
    (hi : IntsAre vs ns) (h0 : 0 ≤ k) (h1 : k ≤ (ns.length : Int)) (h2 : ns.length ≤ 1000)
    (h : ∀ h', Fr h₀ L h' m → News h₀ L h' news' → IntsAre (vs.take k.toNat ++ .int x t :: vs.drop k.toNat) (ns.take k.toNat ++ x :: ns.drop k.toNat) → Q .none { s with heap := h' }) :
    wpAny (model prog w) A (call (.builtin "list.insert") [.ref D, .int k u, .int x t]) Q E s := by
  have hl := hi.length
  refine kl_insert F N ?_ ?_ U ?_ (fun h' F' N' => h h' F' N' ?_)
  · show Builtin.List.listFitsIndex k = true
    unfold Builtin.List.listFitsIndex
    simp
    omega
  · unfold kl_ins
    rw [if_neg (by omega), List.toList_toArray, Nat.min_eq_left (by omega)]
  · rw [List.toList_toArray, sizeLine_eq]; omega
  · exact IntsAre.append (hi.take _) (.cons _ _ (hi.drop _))
end
theorem add_is (a b : Nat) : (a ^^^ b) + 2 * (a &&& b) = a + b := by
  have h : ∀ k a b : Nat, a < 2 ^ k → b < 2 ^ k → (a ^^^ b) + 2 * (a &&& b) = a + b := by
    intro k
    induction k with
    | zero => intro a b ha hb; simp at ha hb; subst ha hb; rfl
    | succ k ih =>
      intro a b ha hb
      have h1 := ih (a / 2) (b / 2) (by omega) (by omega)
      have h2 : (a ^^^ b) / 2 = a / 2 ^^^ b / 2 := Nat.xor_div_two
      have h3 : (a &&& b) / 2 = a / 2 &&& b / 2 := Nat.and_div_two
      have h4 := @Nat.xor_mod_two_eq_one a b
      have h5 := @Nat.and_mod_two_eq_one a b
      rw [← h2, ← h3] at h1
      omega
  exact h (a + b) a b (Nat.lt_of_le_of_lt (Nat.le_add_right _ _) Nat.lt_two_pow_self) (Nat.lt_of_le_of_lt (Nat.le_add_left _ _) Nat.lt_two_pow_self)
theorem or_is (a b : Nat) : (a ||| b) = (a ^^^ b) + (a &&& b) := by
  have h : ∀ k a b : Nat, a < 2 ^ k → b < 2 ^ k → (a ||| b) = (a ^^^ b) + (a &&& b) := by
    intro k
    induction k with
    | zero => intro a b ha hb; simp at ha hb; subst ha hb; rfl
    | succ k ih =>
      intro a b ha hb
      have h1 := ih (a / 2) (b / 2) (by omega) (by omega)
      have h2 : (a ^^^ b) / 2 = a / 2 ^^^ b / 2 := Nat.xor_div_two
      have h3 : (a &&& b) / 2 = a / 2 &&& b / 2 := Nat.and_div_two
      have h6 : (a ||| b) / 2 = a / 2 ||| b / 2 := Nat.or_div_two
      have h4 := @Nat.xor_mod_two_eq_one a b
      have h5 := @Nat.and_mod_two_eq_one a b
      have h7 := @Nat.or_mod_two_eq_one a b
      rw [← h2, ← h3, ← h6] at h1
      omega
  exact h (a + b) a b (Nat.lt_of_le_of_lt (Nat.le_add_right _ _) Nat.lt_two_pow_self) (Nat.lt_of_le_of_lt (Nat.le_add_left _ _) Nat.lt_two_pow_self)
theorem xor_pp {x y : Int} (hx : 0 ≤ x) (hy : 0 ≤ y) : Builtin.bitXor x y = ((x.toNat ^^^ y.toNat : Nat) : Int) := by
  rw [bitXor_and, bitAnd_pp hx hy]
  have := add_is x.toNat y.toNat
  omega
theorem xor_nn {x y : Int} (hx : x < 0) (hy : y < 0) : Builtin.bitXor x y = (((-x - 1).toNat ^^^ (-y - 1).toNat : Nat) : Int) := by
  rw [bitXor_and, bitAnd_nn (by omega) (by omega)]
  unfold Builtin.bitNot
  have h1 := add_is (-x - 1).toNat (-y - 1).toNat
  have h2 := or_is (-x - 1).toNat (-y - 1).toNat
  omega
theorem xor_div (a b k : Nat) : a / 2 ^ k ^^^ b / 2 ^ k = (a ^^^ b) / 2 ^ k := by
  apply Nat.eq_of_testBit_eq
  intro i
  rw [Nat.testBit_xor, Nat.testBit_div_two_pow, Nat.testBit_div_two_pow, Nat.testBit_div_two_pow, Nat.testBit_xor]
theorem eq_of_xor {a b : Nat} (h : a ^^^ b = 0) : a = b := by
  have h3 : (a ^^^ b) ^^^ b = 0 ^^^ b := by rw [h]
  rwa [Nat.xor_assoc, Nat.xor_self, Nat.xor_zero, Nat.zero_xor] at h3
def high (n : Int) : Int := ((intBits n : Nat) : Int) - 1
theorem high_nat {d : Nat} (h : d ≠ 0) : high ((d : Nat) : Int) = ((d.log2 : Nat) : Int) := by
  unfold high PySem.Builtin.Int.intBits
  rw [if_neg (by simpa using h), Int.natAbs_natCast]
  omega
theorem fdiv_pow {a : Int} (ha : 0 ≤ a) (k : Nat) : a.fdiv (2 ^ k) = ((a.toNat / 2 ^ k : Nat) : Int) := by
  rw [Int.fdiv_eq_ediv_of_nonneg _ (Int.le_of_lt (kbt_pos k)), ← kbt_cast, Int.natCast_ediv, Int.toNat_of_nonneg ha]
theorem fdiv_pow_neg {a : Int} (ha : a < 0) (k : Nat) : a.fdiv (2 ^ k) = -(((-a - 1).toNat / 2 ^ k : Nat) : Int) - 1 := by
  rw [Int.fdiv_eq_ediv_of_nonneg _ (Int.le_of_lt (kbt_pos k)), (kbt_below a (kbt_pos k)).1, ← kbt_cast, Int.natCast_ediv, Int.toNat_of_nonneg (by omega)]
/-- at the highest unlike place of two naturals -/
theorem nat_cut {a b : Nat} (h : a ≠ b) : a / 2 ^ (a ^^^ b).log2 ≠ b / 2 ^ (a ^^^ b).log2 ∧ a / 2 ^ (a ^^^ b).log2 / 2 = b / 2 ^ (a ^^^ b).log2 / 2 := by
  have hd : a ^^^ b ≠ 0 := fun e => h (eq_of_xor e)
  constructor
  · intro e
    have hx := xor_div a b (a ^^^ b).log2
    rw [e, Nat.xor_self] at hx
    have := Nat.log2_self_le hd
    have hq := (Nat.div_eq_zero_iff_lt (Nat.two_pow_pos _)).mp hx.symm
    omega
  · rw [Nat.div_div_eq_div_mul, Nat.div_div_eq_div_mul, ← Nat.pow_succ]
    refine eq_of_xor ?_
    rw [xor_div]
    exact Nat.div_eq_of_lt Nat.lt_log2_self
/-- the highest place at which two unlike numbers of one sign differ -/
theorem int_cut {a b : Int} (hs : (a < 0 ↔ b < 0)) (h : a ≠ b) : ∃ p : Nat, high (Builtin.bitXor a b) = (p : Int) ∧ a.fdiv (2 ^ p) ≠ b.fdiv (2 ^ p) ∧ (a.fdiv (2 ^ p)) / 2 = (b.fdiv (2 ^ p)) / 2 ∧ (p : Int) < max (intBits a) (intBits b) := by
  by_cases ha : a < 0
  · have hb := hs.mp ha
    have hn : (-a - 1).toNat ≠ (-b - 1).toNat := by omega
    obtain ⟨h1, h2⟩ := nat_cut hn
    refine ⟨((-a - 1).toNat ^^^ (-b - 1).toNat).log2, ?_, ?_, ?_, ?_⟩
    · rw [xor_nn ha hb, high_nat (fun e => hn (eq_of_xor e))]
    · rw [fdiv_pow_neg ha, fdiv_pow_neg hb]; omega
    · rw [fdiv_pow_neg ha, fdiv_pow_neg hb]; omega
    · have l1 : (-a - 1).toNat < 2 ^ max (intBits a) (intBits b) := Nat.lt_of_le_of_lt (by omega) (intBits_le_iff.mp (Nat.le_max_left (intBits a) (intBits b)))
      have l2 : (-b - 1).toNat < 2 ^ max (intBits a) (intBits b) := Nat.lt_of_le_of_lt (by omega) (intBits_le_iff.mp (Nat.le_max_right (intBits a) (intBits b)))
      have := (Nat.log2_lt (fun e => hn (eq_of_xor e))).mpr (Nat.xor_lt_two_pow l1 l2)
      omega
  · have hb : ¬ b < 0 := fun q => ha (hs.mpr q)
    have hn : a.toNat ≠ b.toNat := by omega
    obtain ⟨h1, h2⟩ := nat_cut hn
    refine ⟨(a.toNat ^^^ b.toNat).log2, ?_, ?_, ?_, ?_⟩
    · rw [xor_pp (by omega) (by omega), high_nat (fun e => hn (eq_of_xor e))]
    · rw [fdiv_pow (by omega), fdiv_pow (by omega)]; omega
    · rw [fdiv_pow (by omega), fdiv_pow (by omega)]; omega
    · have l1 : a.toNat < 2 ^ max (intBits a) (intBits b) := Nat.lt_of_le_of_lt (by omega) (intBits_le_iff.mp (Nat.le_max_left (intBits a) (intBits b)))
      have l2 : b.toNat < 2 ^ max (intBits a) (intBits b) := Nat.lt_of_le_of_lt (by omega) (intBits_le_iff.mp (Nat.le_max_right (intBits a) (intBits b)))
      have := (Nat.log2_lt (fun e => hn (eq_of_xor e))).mpr (Nat.xor_lt_two_pow l1 l2)
      omega
theorem fdiv_mono {a b : Int} (h : a ≤ b) (p : Nat) : a.fdiv (2 ^ p) ≤ b.fdiv (2 ^ p) := by
  rw [Int.fdiv_eq_ediv_of_nonneg _ (Int.le_of_lt (kbt_pos p)), Int.fdiv_eq_ediv_of_nonneg _ (Int.le_of_lt (kbt_pos p))]
  exact Int.ediv_le_ediv (kbt_pos p) h
theorem high_same (a : Int) : high (Builtin.bitXor a a) = -1 := by rw [bitXor_self]; rfl
/-- how the bit at that place tells the greater one -/
theorem told {a b : Int} (hs : (a < 0 ↔ b < 0)) (h : a ≠ b) : 0 ≤ high (Builtin.bitXor a b) ∧ ((b.fdiv (2 ^ (high (Builtin.bitXor a b)).toNat)).fmod 2 = 1 ↔ a < b) := by
  obtain ⟨p, h1, h2, h3, _⟩ := int_cut hs h
  rw [h1, Int.toNat_natCast]
  refine ⟨by omega, ?_⟩
  rw [Int.fmod_eq_emod_of_nonneg _ (by decide)]
  have m1 : a ≤ b → _ := fun q => fdiv_mono q p
  have m2 : b ≤ a → _ := fun q => fdiv_mono q p
  generalize a.fdiv (2 ^ p) = x at *
  generalize b.fdiv (2 ^ p) = y at *
  constructor
  · intro e
    by_cases q : a < b
    · exact q
    · have := m2 (by omega); omega
  · intro q
    have := m1 (by omega); omega
theorem parted {a b : Int} (hs : (a < 0 ↔ b < 0)) (h : a < b) :
    (a.fdiv (2 ^ (high (Builtin.bitXor a b)).toNat)).fmod 2 = 0 ∧ a.fdiv (2 ^ (high (Builtin.bitXor a b)).toNat) + 1 = b.fdiv (2 ^ (high (Builtin.bitXor a b)).toNat) := by
  obtain ⟨p, h1, h2, h3, _⟩ := int_cut hs (by omega)
  rw [h1, Int.toNat_natCast, Int.fmod_eq_emod_of_nonneg _ (by decide)]
  have m1 := fdiv_mono (show a ≤ b by omega) p
  generalize a.fdiv (2 ^ p) = x at *
  generalize b.fdiv (2 ^ p) = y at *
  omega
/-- the row so far: rising, no item too large -/
structure Row (row : List Int) : Prop where
  up : row.Pairwise (· ≤ ·)
  size : ∀ n ∈ row, intBits n ≤ 1048576
/-- none of the first k is greater than x -/
def NoneGreater (row : List Int) (x k : Int) : Prop := ∀ i : Nat, (i : Int) < k → row.getD i 0 ≤ x
theorem row_start : (([] : List Int).length = ([] : List Int).length) ∧ ([] : List Int).length ≤ 32 ∧ Row [] := ⟨rfl, by decide, .nil, fun _ h => nomatch h⟩
theorem none_start (row : List Int) (x : Int) : 0 ≤ (0 : Int) ∧ (0 : Int) ≤ (row.length : Int) ∧ NoneGreater row x 0 := ⟨by decide, by omega, fun i h => absurd h (by omega)⟩
theorem sgn_ne {a b : Int} (h : (decide (a < 0) != decide (b < 0)) = true) : ¬ (a < 0 ↔ b < 0) := by
  intro q
  have e : decide (a < 0) = decide (b < 0) := decide_eq_decide.mpr q
  rw [e] at h
  simp at h
theorem sgn_eq {a b : Int} (h : (decide (a < 0) != decide (b < 0)) = false) : (a < 0 ↔ b < 0) := by
  have : decide (a < 0) = decide (b < 0) := by simpa using h
  exact decide_eq_decide.mp this
theorem sgn_eq' {a b : Int} (h : (decide (a < 0) == decide (b < 0)) = true) : (a < 0 ↔ b < 0) := by
  have : decide (a < 0) = decide (b < 0) := by simpa using h
  exact decide_eq_decide.mp this
/-! a turn of the while: one more that is not greater -/
theorem go {row : List Int} {x k : Int} (hN : NoneGreater row x k) (h0 : 0 ≤ k) (hk : k < (row.length : Int)) (h : row.getD k.toNat 0 ≤ x) : 0 ≤ k + 1 ∧ k + 1 ≤ (row.length : Int) ∧ NoneGreater row x (k + 1) := by
  refine ⟨by omega, by omega, fun i hi => ?_⟩
  by_cases q : (i : Int) < k
  · exact hN i q
  · rw [show i = k.toNat from by omega]; exact h
theorem go1 {row : List Int} {x k : Int} (h : (decide (x < 0) != decide (row.getD k.toNat 0 < 0)) = true) (hx : ¬ x < 0) (hN : NoneGreater row x k) (h0 : 0 ≤ k) (hk : k < (row.length : Int)) : 0 ≤ k + 1 ∧ k + 1 ≤ (row.length : Int) ∧ NoneGreater row x (k + 1) :=
  go hN h0 hk (by have := sgn_ne h; omega)
theorem go2 {row : List Int} {x k : Int} (hf : ((row.getD k.toNat 0).fdiv (2 ^ (high (Builtin.bitXor x (row.getD k.toNat 0))).toNat)).fmod 2 ≠ 1) (h : (decide (x < 0) != decide (row.getD k.toNat 0 < 0)) = false) (hN : NoneGreater row x k) (h0 : 0 ≤ k) (hk : k < (row.length : Int)) : 0 ≤ k + 1 ∧ k + 1 ≤ (row.length : Int) ∧ NoneGreater row x (k + 1) := by
  refine go hN h0 hk ?_
  by_cases e : x = row.getD k.toNat 0
  · omega
  · have q := (told (sgn_eq h) e).2
    have : ¬ x < row.getD k.toNat 0 := fun l => hf (q.mpr l)
    omega
theorem go3 {row : List Int} {x k : Int} (hf : ¬ 0 ≤ high (Builtin.bitXor x (row.getD k.toNat 0))) (h : (decide (x < 0) != decide (row.getD k.toNat 0 < 0)) = false) (hN : NoneGreater row x k) (h0 : 0 ≤ k) (hk : k < (row.length : Int)) : 0 ≤ k + 1 ∧ k + 1 ≤ (row.length : Int) ∧ NoneGreater row x (k + 1) := by
  refine go hN h0 hk ?_
  by_cases e : x = row.getD k.toNat 0
  · omega
  · exact absurd (told (sgn_eq h) e).1 hf
/-! the put -/
theorem item_bits {n : Int} {ws : List Int} (h : n ∈ [2, 1, -2] ++ ws.take 29) (hl : PyData.layable0 (.list (ws.map .int)) = true) : intBits n ≤ 1048576 := by
  rcases List.mem_append.mp h with h | h
  · have : ∀ m ∈ ([2, 1, -2] : List Int), intBits m ≤ 1048576 := by decide
    exact this n h
  · exact intBits_le_of_item (List.mem_of_mem_take h) hl
theorem put_row {row : List Int} {x k : Int} (hR : Row row) (hN : NoneGreater row x k) (h0 : 0 ≤ k) (h1 : k ≤ (row.length : Int)) (hb : intBits x ≤ 1048576) (h : k < (row.length : Int) → x ≤ row.getD k.toNat 0) : Row (row.take k.toNat ++ x :: row.drop k.toNat) := by
  have up := hR.up
  have hap : (row.take k.toNat ++ row.drop k.toNat).Pairwise (· ≤ ·) := by rw [List.take_append_drop]; exact up
  obtain ⟨p1, p2, p3⟩ := List.pairwise_append.mp hap
  have hx : ∀ b ∈ row.drop k.toNat, x ≤ b := by
    intro b hb
    by_cases q : k < (row.length : Int)
    · have hd : row.drop k.toNat = row.getD k.toNat 0 :: row.drop (k.toNat + 1) := by
        have hl : k.toNat < row.length := by omega
        rw [List.getD_eq_getElem?_getD, List.getElem?_eq_getElem hl, Option.getD_some]
        exact List.drop_eq_getElem_cons hl
      rw [hd] at hb p2
      rcases List.mem_cons.mp hb with e | hb
      · rw [e]; exact h q
      · exact Int.le_trans (h q) ((List.pairwise_cons.mp p2).1 b hb)
    · rw [List.drop_eq_nil_of_le (by omega)] at hb
      exact nomatch hb
  have ha : ∀ a ∈ row.take k.toNat, a ≤ x := by
    intro a ha
    obtain ⟨i, hi, e⟩ := List.mem_iff_getElem.mp ha
    have hi' : i < k.toNat ∧ i < row.length := by rw [List.length_take] at hi; omega
    have := hN i (by omega)
    rw [List.getD_eq_getElem?_getD, List.getElem?_eq_getElem hi'.2, Option.getD_some] at this
    rw [← e, List.getElem_take]
    exact this
  refine ⟨List.pairwise_append.mpr ⟨p1, List.pairwise_cons.mpr ⟨hx, p2⟩, fun a qa b qb => ?_⟩, fun n hn => ?_⟩
  · rcases List.mem_cons.mp qb with e | qb
    · rw [e]; exact ha a qa
    · exact p3 a qa b qb
  · rcases List.mem_append.mp hn with hn | hn
    · exact hR.size n (List.mem_of_mem_take hn)
    · rcases List.mem_cons.mp hn with e | hn
      · rw [e]; exact hb
      · exact hR.size n (List.mem_of_mem_drop hn)
theorem put {row ws pre post : List Int} {x k : Int} (hq : [2, 1, -2] ++ ws.take 29 = pre ++ x :: post) (hm : x ∈ [2, 1, -2] ++ ws.take 29) (hl : PyData.layable0 (.list (ws.map .int)) = true) (hp : row.length = pre.length)
    (hR : Row row) (hN : NoneGreater row x k) (h0 : 0 ≤ k) (h1 : k ≤ (row.length : Int)) (h : k < (row.length : Int) → x ≤ row.getD k.toNat 0) :
    (row.take k.toNat ++ x :: row.drop k.toNat).length = (pre ++ [x]).length ∧ (row.take k.toNat ++ x :: row.drop k.toNat).length ≤ 32 ∧ Row (row.take k.toNat ++ x :: row.drop k.toNat) := by
  have e : (row.take k.toNat ++ x :: row.drop k.toNat).length = pre.length + 1 := by
    rw [List.length_append, List.length_cons, List.length_take, List.length_drop]; omega
  have e2 : pre.length + 1 ≤ 32 := by
    have := congrArg List.length hq
    simp only [List.length_append, List.length_cons, List.length_nil, List.length_take] at this
    omega
  refine ⟨by rw [e, List.length_append]; rfl, by omega, put_row hR hN h0 h1 (item_bits hm hl) h⟩
theorem put0 {row ws pre post : List Int} {x k : Int} (h : ¬ k < (row.length : Int)) (hN : NoneGreater row x k) (hq : [2, 1, -2] ++ ws.take 29 = pre ++ x :: post) (hm : x ∈ [2, 1, -2] ++ ws.take 29) (hl : PyData.layable0 (.list (ws.map .int)) = true) (hp : row.length = pre.length)
    (hR : Row row) (h0 : 0 ≤ k) (h1 : k ≤ (row.length : Int)) :
    (row.take k.toNat ++ x :: row.drop k.toNat).length = (pre ++ [x]).length ∧ (row.take k.toNat ++ x :: row.drop k.toNat).length ≤ 32 ∧ Row (row.take k.toNat ++ x :: row.drop k.toNat) :=
  put hq hm hl hp hR hN h0 h1 fun q => absurd q h
theorem put1 {row ws pre post : List Int} {x k : Int} (h : (decide (x < 0) != decide (row.getD k.toNat 0 < 0)) = true) (hx : x < 0) (hN : NoneGreater row x k) (hq : [2, 1, -2] ++ ws.take 29 = pre ++ x :: post) (hm : x ∈ [2, 1, -2] ++ ws.take 29) (hl : PyData.layable0 (.list (ws.map .int)) = true) (hp : row.length = pre.length)
    (hR : Row row) (h0 : 0 ≤ k) (h1 : k ≤ (row.length : Int)) :
    (row.take k.toNat ++ x :: row.drop k.toNat).length = (pre ++ [x]).length ∧ (row.take k.toNat ++ x :: row.drop k.toNat).length ≤ 32 ∧ Row (row.take k.toNat ++ x :: row.drop k.toNat) :=
  put hq hm hl hp hR hN h0 h1 fun _ => by have := sgn_ne h; omega
theorem put2 {row ws pre post : List Int} {x k : Int} (hf : ((row.getD k.toNat 0).fdiv (2 ^ (high (Builtin.bitXor x (row.getD k.toNat 0))).toNat)).fmod 2 = 1) (h : (decide (x < 0) != decide (row.getD k.toNat 0 < 0)) = false) (hN : NoneGreater row x k) (hq : [2, 1, -2] ++ ws.take 29 = pre ++ x :: post) (hm : x ∈ [2, 1, -2] ++ ws.take 29) (hl : PyData.layable0 (.list (ws.map .int)) = true) (hp : row.length = pre.length)
    (hR : Row row) (h0 : 0 ≤ k) (h1 : k ≤ (row.length : Int)) :
    (row.take k.toNat ++ x :: row.drop k.toNat).length = (pre ++ [x]).length ∧ (row.take k.toNat ++ x :: row.drop k.toNat).length ≤ 32 ∧ Row (row.take k.toNat ++ x :: row.drop k.toNat) :=
  put hq hm hl hp hR hN h0 h1 fun _ => by
    by_cases e : x = row.getD k.toNat 0
    · omega
    · have := ((told (sgn_eq h) e).2).mp hf
      omega
/-! powers -/
theorem high_le {a b : Int} (hs : a < 0 ↔ b < 0) (ha : intBits a ≤ 1048576) (hb : intBits b ≤ 1048576) : high (Builtin.bitXor a b) ≤ 1048576 := by
  by_cases e : a = b
  · rw [e, high_same]; omega
  · obtain ⟨p, h1, _, _, h2⟩ := int_cut hs e
    omega
theorem row_bits {row : List Int} (hR : Row row) (i : Nat) : intBits (row.getD i 0) ≤ 1048576 := by
  by_cases h : i < row.length
  · rw [List.getD_eq_getElem?_getD, List.getElem?_eq_getElem h, Option.getD_some]
    exact hR.size _ (List.getElem_mem h)
  · rw [List.getD_eq_getElem?_getD, List.getElem?_eq_none (by omega), Option.getD_none]
    decide
theorem pow_room {k : Int} (h : k ≤ 1048576) : ((intBits 2 : Nat) : Int) * k ≤ 2 ^ 27 := by
  rw [show intBits 2 = 2 from by decide]; omega
theorem room1 {row ws : List Int} {x : Int} {i : Nat} (h : (decide (x < 0) != decide (row.getD i 0 < 0)) = false) (hR : Row row) (hm : x ∈ [2, 1, -2] ++ ws.take 29) (hl : PyData.layable0 (.list (ws.map .int)) = true) : ((intBits 2 : Nat) : Int) * high (Builtin.bitXor x (row.getD i 0)) ≤ 2 ^ 27 :=
  pow_room (high_le (sgn_eq h) (item_bits hm hl) (row_bits hR i))
theorem room2 {row : List Int} {i j : Nat} (h : (decide (row.getD i 0 < 0) == decide (row.getD j 0 < 0)) = true) (hR : Row row) : ((intBits 2 : Nat) : Int) * high (Builtin.bitXor (row.getD i 0) (row.getD j 0)) ≤ 2 ^ 27 :=
  pow_room (high_le (sgn_eq' h) (row_bits hR i) (row_bits hR j))
theorem lo2 {a b : Int} (h : (decide (a < 0) == decide (b < 0)) = true) (hn : a ≠ b) : 0 ≤ high (Builtin.bitXor a b) := (told (sgn_eq' h) hn).1
/-! the ends -/
theorem le_of_row {row : List Int} {i j : Int} (hR : Row row) (hij : i < j) (hi : 0 ≤ i) (hj : j < (row.length : Int)) : row.getD i.toNat 0 ≤ row.getD j.toNat 0 := by
  rw [List.getD_eq_getElem?_getD, List.getElem?_eq_getElem (by omega : i.toNat < row.length), Option.getD_some, List.getD_eq_getElem?_getD, List.getElem?_eq_getElem (by omega : j.toNat < row.length), Option.getD_some]
  exact List.pairwise_iff_getElem.mp hR.up i.toNat j.toNat (by omega) (by omega) (by omega)
theorem end1 {a b : Int} (h : high (Builtin.bitXor a b) ≠ -1) (e : a = b) : False := by subst e; exact h (high_same a)
theorem end2 {a b : Int} (h : (a.fdiv (2 ^ (high (Builtin.bitXor a b)).toNat)).fmod 2 ≠ 0) (hn : a ≠ b) (hs : (decide (a < 0) == decide (b < 0)) = true) (hle : a ≤ b) : False := h (parted (sgn_eq' hs) (by omega)).1
theorem end3 {a b : Int} (h : a.fdiv (2 ^ (high (Builtin.bitXor a b)).toNat) + 1 ≠ b.fdiv (2 ^ (high (Builtin.bitXor a b)).toNat)) (hn : a ≠ b) (hs : (decide (a < 0) == decide (b < 0)) = true) (hle : a ≤ b) : False := h (parted (sgn_eq' hs) (by omega)).2
theorem pow_ne (k : Nat) : (2 : Int) ^ k ≠ 0 := Int.ne_of_gt (kbt_pos k)
end Mine
set_option maxRecDepth 100000 in
set_option maxHeartbeats 8000000 in
theorem PySem.Challenge.cw_dm0103_02_holds : PySem.Challenge.rw_dm0103_02.Holds := by
  k_with "exec For" => ((with_reducible show wpAny _ _ (exec (Stmt.For (Expr.Name _ _) (Expr.BinOp _ _ _ _) _ [] _) _) _ _ _); with_unfolding_all ((rename Fr _ _ _ _ => F'); (refine For_invVF F' (by rfl) (by rfl) ?_)))
  k_with "pyIter ref" => (k_of "x" => k_state (fun pre row => row.length = pre.length ∧ row.length ≤ 32 ∧ Mine.Row row) "row")
  k_with "pyIter ref" => (k_of "k" => k_search (fun (pre : List Int) => True))
  k_with "exec While" => k_while_given ["row", "x"] (fun row x script k => 0 ≤ k ∧ k ≤ (row.length : Int) ∧ Mine.NoneGreater row x k) (fun row x script k => ((row.length : Int) - k).toNat) "k"
  k_with "state" => first
    | exact True.intro
    | exact Mine.row_start
    | exact Mine.none_start _ _
    | exact Mine.go1 (by assumption) (by assumption) (by assumption) (by assumption) (by assumption)
    | exact Mine.go2 (by assumption) (by assumption) (by assumption) (by assumption) (by assumption)
    | exact Mine.go3 (by assumption) (by assumption) (by assumption) (by assumption) (by assumption)
    | exact Mine.put0 (by assumption) (by assumption) (by assumption) (by assumption) (by assumption) (by assumption) (by assumption) (by assumption) (by assumption)
    | exact Mine.put1 (by assumption) (by assumption) (by assumption) (by assumption) (by assumption) (by assumption) (by assumption) (by assumption) (by assumption) (by assumption)
    | exact Mine.put2 (by assumption) (by assumption) (by assumption) (by assumption) (by assumption) (by assumption) (by assumption) (by assumption) (by assumption) (by assumption)
  k_with "binaryOp Pow int int" => (k_here; (with_reducible refine pow_int ?ka ?kb ?_); (case ka => first | assumption | exact Mine.lo2 (by assumption) (by assumption)); (case kb => first | exact Mine.room1 (by assumption) (by assumption) (by assumption) (by assumption) | exact Mine.room2 (by assumption) (by assumption)))
  k_with "InvEndN" => (with_unfolding_all ((rename News _ _ _ _ => nE'); (refine kst_end () (by assumption) nE' (by kst_in) (by intro p hp; kst_mem) (by rfl) True.intro (List.forall_mem_nil _) (by kst_same) True.intro)))
  k_with "end" => first
    | exact (Mine.end1 (by assumption) (by assumption)).elim
    | exact (Mine.end2 (by assumption) (by assumption) (by assumption) (Mine.le_of_row (by assumption) (by omega) (by omega) (by omega))).elim
    | exact (Mine.end3 (by assumption) (by assumption) (by assumption) (Mine.le_of_row (by assumption) (by omega) (by omega) (by omega))).elim
  k_with "tree" => simp only [Mine.high]
  k_with "eval Call Name cons nil" => refine Call_ ?_
  k_with "call ref" => k_call_by "_high_bit" Mine.high
  k_with "call builtin:list.insert" => (k_here; (k_dflt (refine' Mine.ins_ints ?jF ?jN ?jU ?jI ?ja ?jb ?jc ?_; (case jF => k_asm); (case jN => k_asm); (case jU => k_upd); (case jI => assumption); (case ja => omega); (case jb => omega); (case jc => omega))); intro h' F' N' I')
  k_with "binaryOp FloorDiv int int" => ((refine floordiv_int ?ke ?_ ?kp); (case ke => exact Mine.pow_ne _); (case kp => exact Or.inr (PySem.PylongRoom.of (by first | assumption | (refine PySem.Heap.NoLimit.keeps ?_ (PyProof.Rows.Fr.keep (by assumption)); first | assumption | exact PyProof.Rows.Glob.nolimit (by assumption) | exact PyProof.Rows.Top.nolimit (by assumption)) | exact PyProof.Rows.Glob.nolimit (by assumption) | exact PyProof.Rows.Top.nolimit (by assumption)) (of_decide_eq_true (by with_unfolding_all rfl)))))
  open_k
