import PyProof.Rows.All
import Wide.All
import OpenK.AllK
import Wide.FinOn
import PySem.Challenge.RW_dm0103_03
open PySem PySem.W PyProof.Rows
set_option Elab.async false
namespace Mine
open PySem.Builtin.Int (intBits)
theorem xor_pp {x y : Int} (hx : 0 ≤ x) (hy : 0 ≤ y) : Builtin.bitXor x y = ((x.toNat ^^^ y.toNat : Nat) : Int) := by
  rw [bitXor_and, bitAnd_pp hx hy]
  have h : ∀ k a b : Nat, a < 2 ^ k → b < 2 ^ k → (a ^^^ b) + 2 * (a &&& b) = a + b := by
    intro k
    induction k with
    | zero => intro a b ha hb; simp at ha hb; subst ha hb; rfl
    | succ k ih =>
      intro a b ha hb
      have h1 := ih (a / 2) (b / 2) (by omega) (by omega)
      have h2 : (a ^^^ b) / 2 = a / 2 ^^^ b / 2 := Nat.xor_div_two
      have h3 : (a &&& b) / 2 = a / 2 &&& b / 2 := Nat.and_div_two
      have h4 := @Nat.xor_mod_two_eq_one a b
      have h5 := @Nat.and_mod_two_eq_one a b
      rw [← h2, ← h3] at h1
      omega
  have hk := h (x.toNat + y.toNat) x.toNat y.toNat (Nat.lt_of_le_of_lt (Nat.le_add_right _ _) Nat.lt_two_pow_self) (Nat.lt_of_le_of_lt (Nat.le_add_left _ _) Nat.lt_two_pow_self)
  omega
/-- the Gray code -/
def gray (n : Nat) : Nat := n ^^^ n / 2
theorem gray_xor (a b : Nat) : gray a ^^^ gray b = gray (a ^^^ b) := by
  unfold gray
  rw [Nat.xor_div_two, Nat.xor_assoc, ← Nat.xor_assoc (a / 2), Nat.xor_comm (a / 2) b, Nat.xor_assoc b, ← Nat.xor_assoc]
theorem gray_lt {d k : Nat} (h : d < 2 ^ k) : gray d < 2 ^ k := Nat.xor_lt_two_pow h (by omega)
theorem gray_log {d : Nat} (h : d ≠ 0) : (gray d).log2 = d.log2 ∧ gray d ≠ 0 := by
  have h1 := Nat.log2_self_le h
  have h2 := @Nat.lt_log2_self d
  have hb : (gray d).testBit d.log2 = true := by
    unfold gray
    rw [Nat.testBit_xor, Nat.testBit_log2 h]
    have : d / 2 < 2 ^ d.log2 := by rw [Nat.pow_succ] at h2; omega
    rw [Nat.testBit_lt_two_pow this]
    rfl
  have hlo := Nat.ge_two_pow_of_testBit hb
  have hne : gray d ≠ 0 := by intro e; rw [e] at hb; simp at hb
  refine ⟨?_, hne⟩
  exact (Nat.log2_eq_iff hne).mpr ⟨hlo, gray_lt h2⟩
theorem gray_inj {a b : Nat} (h : gray a = gray b) : a = b := by
  have h1 : gray (a ^^^ b) = 0 := by rw [← gray_xor, h, Nat.xor_self]
  by_cases h2 : a ^^^ b = 0
  · have h3 : (a ^^^ b) ^^^ b = 0 ^^^ b := by rw [h2]
    rwa [Nat.xor_assoc, Nat.xor_self, Nat.xor_zero, Nat.zero_xor] at h3
  · exact absurd h1 (gray_log h2).2
theorem ones_div (p : Nat) : (2 ^ (p + 1) - 1) / 2 = 2 ^ p - 1 := by rw [Nat.pow_succ]; have := Nat.two_pow_pos p; omega
theorem gray_ones (p : Nat) : gray (2 ^ (p + 1) - 1) = 2 ^ p := by
  unfold gray
  rw [ones_div]
  apply Nat.eq_of_testBit_eq
  intro i
  rw [Nat.testBit_xor, Nat.testBit_two_pow_sub_one, Nat.testBit_two_pow_sub_one, Nat.testBit_two_pow]
  by_cases h1 : i < p <;> by_cases h2 : i = p <;> by_cases h3 : i < p + 1 <;> simp [*] <;> omega
theorem compl_xor {k l : Nat} (h : l < 2 ^ k) : l ^^^ (2 ^ k - 1) = 2 ^ k - (l + 1) := by
  apply Nat.eq_of_testBit_eq
  intro i
  rw [Nat.testBit_xor, Nat.testBit_two_pow_sub_one, Nat.testBit_two_pow_sub_succ h]
  by_cases hi : i < k
  · simp [hi]
  · have : l.testBit i = false := Nat.testBit_lt_two_pow (Nat.lt_of_lt_of_le h (Nat.pow_le_pow_right (by decide) (by omega)))
    simp [hi, this]
/-- the two counts lie mirrored -/
theorem mirrored {a b k : Nat} (h : a / 2 ^ k = b / 2 ^ k) : (a ^^^ b = 2 ^ k - 1) ↔ (a + b + 1) % 2 ^ k = 0 := by
  have hp := Nat.two_pow_pos k
  have ha := Nat.div_add_mod a (2 ^ k)
  have hb := Nat.div_add_mod b (2 ^ k)
  have la := Nat.mod_lt a hp
  have lb := Nat.mod_lt b hp
  have e1 : a ^^^ b = a % 2 ^ k ^^^ b % 2 ^ k := by
    apply Nat.eq_of_testBit_eq
    intro i
    rw [Nat.testBit_xor, Nat.testBit_xor, Nat.testBit_mod_two_pow, Nat.testBit_mod_two_pow]
    by_cases hi : i < k
    · simp [hi]
    · have : a.testBit i = b.testBit i := by
        have e : i = (i - k) + k := by omega
        rw [e, ← Nat.testBit_div_two_pow, ← Nat.testBit_div_two_pow, h]
      simp [hi, this]
  have e2 : (a + b + 1) % 2 ^ k = (a % 2 ^ k + b % 2 ^ k + 1) % 2 ^ k := by
    rw [Nat.add_mod (a + b), Nat.add_mod a b]
    simp [Nat.add_mod]
  rw [e1, e2]
  generalize a % 2 ^ k = l at *
  generalize b % 2 ^ k = r at *
  have e3 : (l ^^^ r = 2 ^ k - 1) ↔ r = 2 ^ k - (l + 1) := by
    rw [← compl_xor la]
    constructor
    · intro e; rw [← e, ← Nat.xor_assoc, Nat.xor_self, Nat.zero_xor]
    · intro e; rw [e, ← Nat.xor_assoc, Nat.xor_self, Nat.zero_xor]
  rw [e3]
  constructor
  · intro e
    have : l + r + 1 = 2 ^ k := by omega
    rw [this, Nat.mod_self]
  · intro e
    have hd := Nat.dvd_of_mod_eq_zero e
    obtain ⟨c, hc⟩ := hd
    have : c = 1 := by
      rcases c with _ | _ | c
      · omega
      · rfl
      · exfalso
        rw [Nat.mul_add, Nat.mul_add] at hc
        omega
    subst this
    omega
/-- below nought: never nought -/
theorem neg_and {n : Int} (h : n < 0) : Builtin.bitAnd n (n - 1) ≠ 0 := by
  rw [bitAnd_nn (by omega) (by omega)]
  unfold Builtin.bitNot
  omega
/-- the halving of n & (n - 1) -/
theorem and_odd {n : Int} (h : n % 2 = 1) : Builtin.bitAnd n (n - 1) = 2 * (n / 2) := by
  rw [kbt_halves, if_neg (by omega), show (n - 1) / 2 = n / 2 from by omega, bitAnd_self]
  omega
theorem and_even {n : Int} (h : n % 2 = 0) : Builtin.bitAnd n (n - 1) = 2 * Builtin.bitAnd (n / 2) (n / 2 - 1) := by
  rw [kbt_halves, if_neg (by omega), show (n - 1) / 2 = n / 2 - 1 from by omega]
  omega
/-- a single bit is a power of two -/
theorem pow_of_and : ∀ (m : Nat) (n : Int), 1 ≤ n → n.toNat = m → Builtin.bitAnd n (n - 1) = 0 → ∃ j : Nat, n = 2 ^ j := by
  intro m
  induction m using Nat.strongRecOn with
  | ind m ih =>
    intro n h1 hm h0
    rcases Int.emod_two_eq n with e | e
    · rw [and_even e] at h0
      obtain ⟨j, hj⟩ := ih (n / 2).toNat (by omega) (n / 2) (by omega) rfl (by omega)
      exact ⟨j + 1, by rw [Int.pow_succ, ← hj]; omega⟩
    · rw [and_odd e] at h0
      exact ⟨0, by rw [Int.pow_zero]; omega⟩
theorem and_pow : ∀ p : Nat, Builtin.bitAnd ((2 : Int) ^ p) (2 ^ p - 1) = 0
  | 0 => by rw [Int.pow_zero]; rfl
  | p + 1 => by
    have e : (2 : Int) ^ (p + 1) = 2 * 2 ^ p := by rw [Int.pow_succ, Int.mul_comm]
    rw [and_even (by omega), show (2 : Int) ^ (p + 1) / 2 = 2 ^ p from by omega, and_pow p]; rfl
def single (n : Int) : Bool := if n = 0 then false else Builtin.bitAnd n (n - 1) == 0
def high (n : Int) : Int := ((intBits n : Nat) : Int) - 1
def code (n : Int) : Int := Builtin.bitXor n (n.fdiv 2)
theorem code_is {a : Int} (ha : 0 ≤ a) : code a = ((gray a.toNat : Nat) : Int) := by
  unfold code gray
  rw [Int.fdiv_eq_ediv_of_nonneg _ (by decide), xor_pp ha (by omega), show (a / 2).toNat = a.toNat / 2 from by omega]
/-- the xor of both codes is the code of the xor -/
theorem apart_is {a b : Int} (ha : 0 ≤ a) (hb : 0 ≤ b) : Builtin.bitXor (code a) (code b) = ((gray (a.toNat ^^^ b.toNat) : Nat) : Int) := by
  rw [code_is ha, code_is hb, xor_pp (by omega) (by omega), Int.toNat_natCast, Int.toNat_natCast, gray_xor]
theorem xor_ne {a b : Int} (ha : 0 ≤ a) (hb : 0 ≤ b) (h : a ≠ b) : a.toNat ^^^ b.toNat ≠ 0 := by
  intro e
  have h3 : (a.toNat ^^^ b.toNat) ^^^ b.toNat = 0 ^^^ b.toNat := by rw [e]
  rw [Nat.xor_assoc, Nat.xor_self, Nat.xor_zero, Nat.zero_xor] at h3
  omega
theorem high_same {a b : Int} (h : a = b) : high (Builtin.bitXor (code a) (code b)) = -1 := by
  subst h
  rw [bitXor_self]; rfl
theorem high_is {a b : Int} (ha : 0 ≤ a) (hb : 0 ≤ b) (h : a ≠ b) : high (Builtin.bitXor (code a) (code b)) = (((a.toNat ^^^ b.toNat).log2 : Nat) : Int) := by
  have hd := xor_ne ha hb h
  obtain ⟨h1, h2⟩ := gray_log hd
  rw [apart_is ha hb]
  unfold high PySem.Builtin.Int.intBits
  rw [if_neg (by simpa using h2), Int.natAbs_natCast, h1]
  omega
theorem fdiv_pow {a : Int} (ha : 0 ≤ a) (k : Nat) : a.fdiv (2 ^ k) = ((a.toNat / 2 ^ k : Nat) : Int) := by
  rw [Int.fdiv_eq_ediv_of_nonneg _ (Int.le_of_lt (kbt_pos k)), ← kbt_cast, Int.natCast_ediv, Int.toNat_of_nonneg ha]
theorem xor_div (a b k : Nat) : a / 2 ^ k ^^^ b / 2 ^ k = (a ^^^ b) / 2 ^ k := by
  apply Nat.eq_of_testBit_eq
  intro i
  rw [Nat.testBit_xor, Nat.testBit_div_two_pow, Nat.testBit_div_two_pow, Nat.testBit_div_two_pow, Nat.testBit_xor]
theorem eq_of_xor {a b : Nat} (h : a ^^^ b = 0) : a = b := by
  have h3 : (a ^^^ b) ^^^ b = 0 ^^^ b := by rw [h]
  rwa [Nat.xor_assoc, Nat.xor_self, Nat.xor_zero, Nat.zero_xor] at h3
theorem cut_ne {a b : Int} (ha : 0 ≤ a) (hb : 0 ≤ b) (h : a ≠ b) : a.fdiv (2 ^ (high (Builtin.bitXor (code a) (code b))).toNat) ≠ b.fdiv (2 ^ (high (Builtin.bitXor (code a) (code b))).toNat) := by
  have hd := xor_ne ha hb h
  rw [high_is ha hb h, Int.toNat_natCast, fdiv_pow ha, fdiv_pow hb]
  intro e
  have e' : a.toNat / 2 ^ (a.toNat ^^^ b.toNat).log2 = b.toNat / 2 ^ (a.toNat ^^^ b.toNat).log2 := by omega
  have hx := xor_div a.toNat b.toNat (a.toNat ^^^ b.toNat).log2
  rw [e', Nat.xor_self] at hx
  have := Nat.log2_self_le hd
  have hq := (Nat.div_eq_zero_iff_lt (Nat.two_pow_pos _)).mp hx.symm
  omega
theorem div_eq_above {a b : Int} (ha : 0 ≤ a) (hb : 0 ≤ b) : a.toNat / 2 ^ ((a.toNat ^^^ b.toNat).log2 + 1) = b.toNat / 2 ^ ((a.toNat ^^^ b.toNat).log2 + 1) := by
  refine eq_of_xor ?_
  rw [xor_div]
  exact Nat.div_eq_of_lt Nat.lt_log2_self
theorem cut_eq {a b : Int} (ha : 0 ≤ a) (hb : 0 ≤ b) (h : a ≠ b) : a.fdiv (2 * 2 ^ (high (Builtin.bitXor (code a) (code b))).toNat) = b.fdiv (2 * 2 ^ (high (Builtin.bitXor (code a) (code b))).toNat) := by
  rw [high_is ha hb h, Int.toNat_natCast, show ∀ k : Nat, (2 : Int) * 2 ^ k = 2 ^ (k + 1) from fun k => by rw [Int.pow_succ, Int.mul_comm], fdiv_pow ha, fdiv_pow hb, div_eq_above ha hb]
theorem single_is {a b : Int} (ha : 0 ≤ a) (hb : 0 ≤ b) (h : a ≠ b) :
    single (Builtin.bitXor (code a) (code b)) = ((a + b + 1).fmod (2 ^ (high (Builtin.bitXor (code a) (code b)) + 1).toNat) == 0) := by
  have hd := xor_ne ha hb h
  obtain ⟨h1, h2⟩ := gray_log hd
  rw [high_is ha hb h, apart_is ha hb, show ∀ k : Nat, ((k : Int) + 1).toNat = k + 1 from fun k => by omega]
  have hm := mirrored (div_eq_above ha hb)
  rw [Int.fmod_eq_emod_of_nonneg _ (Int.le_of_lt (kbt_pos _))]
  have hc : (a + b + 1) % 2 ^ ((a.toNat ^^^ b.toNat).log2 + 1) = (((a.toNat + b.toNat + 1) % 2 ^ ((a.toNat ^^^ b.toNat).log2 + 1) : Nat) : Int) := by
    rw [Int.natCast_emod, kbt_cast]
    congr 1
    omega
  rw [hc]
  generalize a.toNat ^^^ b.toNat = d at *
  generalize (a.toNat + b.toNat + 1) % 2 ^ (d.log2 + 1) = r at *
  apply Bool.eq_iff_iff.mpr
  rw [beq_iff_eq, show ((r : Nat) : Int) = 0 ↔ r = 0 from by omega, ← hm]
  unfold single
  rw [if_neg (by omega), beq_iff_eq]
  constructor
  · intro h0
    obtain ⟨j, hj⟩ := pow_of_and _ _ (by omega) rfl h0
    rw [← kbt_cast] at hj
    have hj' : gray d = 2 ^ j := by omega
    have hjl : j = d.log2 := by rw [← h1, hj', Nat.log2_two_pow]
    refine gray_inj ?_
    rw [gray_ones, hj', hjl]
  · intro e
    have : gray d = 2 ^ d.log2 := by
      conv => lhs; rw [e]
      exact gray_ones _
    rw [this, kbt_cast]
    exact and_pow _
theorem single_same {a b : Int} (h : a = b) : single (Builtin.bitXor (code a) (code b)) = false := by
  subst h
  rw [bitXor_self]; rfl
theorem single_neg {a b : Int} (ha : 0 ≤ a) (hb : 0 ≤ b) : single (-Builtin.bitXor (code a) (code b)) = false := by
  rw [apart_is ha hb]
  unfold single
  split
  · rfl
  · rw [beq_eq_false_iff_ne]
    exact neg_and (by omega)
/-! the ends -/
theorem end1 {a b : Int} (h : high (Builtin.bitXor (code a) (code b)) ≠ -1) (e : a = b) : False := h (high_same e)
theorem end2 {a b : Int} (h : a.fdiv (2 ^ (high (Builtin.bitXor (code a) (code b))).toNat) = b.fdiv (2 ^ (high (Builtin.bitXor (code a) (code b))).toNat)) (e : a ≠ b) (ha : 0 ≤ a) (hb : 0 ≤ b) : False := cut_ne ha hb e h
theorem end3 {a b : Int} (h : a.fdiv (2 * 2 ^ (high (Builtin.bitXor (code a) (code b))).toNat) ≠ b.fdiv (2 * 2 ^ (high (Builtin.bitXor (code a) (code b))).toNat)) (e : a ≠ b) (ha : 0 ≤ a) (hb : 0 ≤ b) : False := h (cut_eq ha hb e)
theorem end4 {a b : Int} (h : (single (Builtin.bitXor (code a) (code b)) == (a != b) && single (-Builtin.bitXor (code a) (code b)) == false) = false) (e : a = b) (ha : 0 ≤ a) (hb : 0 ≤ b) : False := by
  rw [single_same e, single_neg ha hb, e] at h
  simp at h
theorem end5 {a b : Int} (h : (single (Builtin.bitXor (code a) (code b)) == ((a + b + 1).fmod (2 ^ (high (Builtin.bitXor (code a) (code b)) + 1).toNat) == 0) && single (-Builtin.bitXor (code a) (code b)) == false) = false) (e : a ≠ b) (ha : 0 ≤ a) (hb : 0 ≤ b) : False := by
  rw [single_is ha hb e, single_neg ha hb] at h
  simp at h
structure Size (n : Int) : Prop where
  mk :: (out : intBits n ≤ 1048576)
structure Size1 (n : Int) : Prop where
  mk :: (out : intBits n ≤ 1048577)
def asked (a b p : Int) : Prop := a = b ∨ (0 ≤ p ∧ p ≤ 1048600)
theorem asked_of {a b : Int} (ha : 0 ≤ a) (hb : 0 ≤ b) (sa : Size a) (sb : Size1 b) : asked a b (high (Builtin.bitXor (code a) (code b))) := by
  by_cases h : a = b
  · exact Or.inl h
  · refine Or.inr ?_
    rw [high_is ha hb h]
    refine ⟨by omega, ?_⟩
    have h1 : a.toNat < 2 ^ 1048577 := by
      have := intBits_le_iff.mp (Nat.le_trans sa.out (by decide : 1048576 ≤ 1048577))
      rwa [show a.natAbs = a.toNat from by omega] at this
    have h2 : b.toNat < 2 ^ 1048577 := by
      have := intBits_le_iff.mp sb.out
      rwa [show b.natAbs = b.toNat from by omega] at this
    have h3 := Nat.xor_lt_two_pow h1 h2
    have h4 := (Nat.log2_lt (xor_ne ha hb h)).mpr h3
    clear h1 h2 h3
    omega
section
variable {prog : Program} {w : World} {A : Around} {E : Value → Shared → Prop} {s : Shared}
/-- an item of a list of ints at a place that may lie below nought: one of its ints -/
theorem item_any {value slice : PySem.Expr} {l : Addr} {vs : List Value} {ns : List Int} {k : Int} {u : Tok} {Q : Value → Shared → Prop} (hl : s.heap.IsList l vs.toArray) (hi : IntsAre vs ns)
    (h1 : -(ns.length : Int) ≤ k) (h2 : k < ns.length) (h3 : (ns.length : Int) < 2 ^ 63) (h : ∀ n t, n ∈ ns → Q (.int n t) s)
    (hs : subscripted slice false (.ref l) (.int k u) = operate [.ref l, .int k u] (getItem (.ref l) (.int k u)) := by with_unfolding_all rfl) (hg : ∀ r, letTemporaryGo value (.ref l) r = pure () := by intro _; with_unfolding_all rfl) :
    wpAny (model prog w) A (subscriptTail value slice (.ref l) (.int k u)) Q E s := by
  have mem : ∀ i : Nat, i < ns.length → ns.getD i 0 ∈ ns := by
    intro i hi
    rw [List.getD_eq_getElem?_getD, List.getElem?_eq_getElem hi]
    exact List.getElem_mem hi
  by_cases h0 : 0 ≤ k
  · exact item_list_ints hl hi h0 h2 (by omega) (fun t => h _ t (mem _ (by omega))) hs hg
  · exact item_list_ints_neg hl hi (by omega) h1 (by omega) (fun t => h _ t (mem _ (by omega))) hs hg
/-- the number without its sign, its size told alone -/
theorem abs_any {a : Int} {t : Tok} {Q : Value → Shared → Prop} (hb : intBits a ≤ 1048576) (h : ∀ b u tk, 0 ≤ b → Size b → Q (.int b u) { s with toks := tk }) :
    wpAny (model prog w) A (call (.builtin "abs") [.int a t]) Q E s :=
  call_abs_int fun u tk => h _ u tk (by split <;> omega) ⟨intBits_le_of_natAbs (by split <;> omega) hb⟩
/-- the second count: what it is does not matter, only that it is a count -/
theorem add_any {a b : Int} {t u : Tok} {Q : Value → Shared → Prop} (ha : 0 ≤ a) (hb : 0 ≤ b) (sa : Size a) (sb : Size b) (h : ∀ c v tk, 0 ≤ c → Size1 c → Q (.int c v) { s with toks := tk }) :
    wpAny (model prog w) A (binaryOp .Add (.int a t) (.int b u)) Q E s :=
  add_int (h _ _ _ (by omega) ⟨by have := intBits_add_le sa.out sb.out; omega⟩)
theorem with_asked {a b : Int} {f : Addr} {t u v : Tok} {Q : Value → Shared → Prop} (ha : 0 ≤ a) (hb : 0 ≤ b) (sa : Size a) (sb : Size1 b)
    (h : asked a b (high (Builtin.bitXor (code a) (code b))) → wpAny (model prog w) A (call (.ref f) [.int a t, .int b u, .int (high (Builtin.bitXor (code a) (code b))) v]) Q E s) :
    wpAny (model prog w) A (call (.ref f) [.int a t, .int b u, .int (high (Builtin.bitXor (code a) (code b))) v]) Q E s := h (asked_of ha hb sa sb)
end
theorem bits_le {n : Int} {ns : List Int} (h : n ∈ ns ++ [1]) (hl : PyData.layable0 (.list (ns.map .int)) = true) : intBits n ≤ 1048576 := by
  rcases List.mem_append.mp h with h | h
  · exact intBits_le_of_item h hl
  · rw [List.mem_singleton.mp h]; decide
theorem pow_room {k : Int} (h : k ≤ 1048601) : ((intBits 2 : Nat) : Int) * k ≤ 2 ^ 27 := by
  rw [show intBits 2 = 2 from by decide]; omega
theorem pow_ne (k : Nat) : (2 : Int) ^ k ≠ 0 := Int.ne_of_gt (kbt_pos k)
theorem two_pow_ne (k : Nat) : 2 * (2 : Int) ^ k ≠ 0 := by have := kbt_pos k; omega
theorem asked_lo {a b p : Int} (h : asked a b p) (hn : ¬ a = b) : 0 ≤ p := (h.resolve_left hn).1
theorem asked_hi {a b p : Int} (h : asked a b p) (hn : ¬ a = b) : p ≤ 1048600 := (h.resolve_left hn).2
end Mine
set_option maxRecDepth 100000 in
set_option maxHeartbeats 8000000 in
theorem PySem.Challenge.cw_dm0103_03_holds : PySem.Challenge.rw_dm0103_03.Holds := by
  k_with "pyIter ref" => k_search (fun (pre : List Int) => True)
  k_with "subscriptTail" => ((with_reducible show wpAny _ _ (subscriptTail _ _ (Value.ref _) (Value.int _ _)) _ _ _); (with_unfolding_all refine' Mine.item_any ?k1 ?k2 ?k3 ?k4 ?k5 ?_; (case k1 => is_list); (case k2 => l_ints); (case k3 => l_idx); (case k4 => l_idx); (case k5 => l_idx); k_whole); intro kI kJ kItem)
  k_with "subscriptTail Name BinOp ref int" => ((with_reducible show wpAny _ _ (subscriptTail _ _ (Value.ref _) (Value.int _ _)) _ _ _); (with_unfolding_all refine' Mine.item_any ?k1 ?k2 ?k3 ?k4 ?k5 ?_; (case k1 => is_list); (case k2 => l_ints); (case k3 => l_idx); (case k4 => l_idx); (case k5 => l_idx); k_whole); intro kI kJ kItem)
  k_with "subscriptTail Name Name ref int" => ((with_reducible show wpAny _ _ (subscriptTail _ _ (Value.ref _) (Value.int _ _)) _ _ _); (with_unfolding_all refine' Mine.item_any ?k1 ?k2 ?k3 ?k4 ?k5 ?_; (case k1 => is_list); (case k2 => l_ints); (case k3 => l_idx); (case k4 => l_idx); (case k5 => l_idx); k_whole); intro kI kJ kItem)
  k_with "call builtin:abs" => ((with_reducible refine Mine.abs_any (Mine.bits_le (by assumption) (by assumption)) ?_); intro kAbs _ _ kAbs0 kAbsB)
  k_with "binaryOp Add int int" => ((with_reducible refine Mine.add_any (by assumption) (by assumption) (by assumption) (by assumption) ?_); intro kHigh _ _ kHigh0 kHighS)
  k_with "eval Call Name cons nil" => refine Call_ ?_
  k_with "tree" => simp only [Mine.single, Mine.high, Mine.code]
  k_with "call ref" => ((fail_if_success rename Mine.asked _ _ _ => hAsk9); (refine Mine.with_asked (by assumption) (by assumption) (by assumption) (by assumption) ?_); intro hAsk)
  k_with "call ref" => k_call_by "_is_single_bit" Mine.single
  k_with "call ref" => k_call_by "_high_bit" Mine.high
  k_with "call ref" => k_call_by "_law_code" Mine.code
  k_with "binaryOp Pow int int" => (k_here; (with_reducible refine pow_int ?ka ?kb ?_); (case ka => (have hB9 := Mine.asked_lo (by assumption) (by assumption)); omega); (case kb => exact Mine.pow_room (by (have hG9 := Mine.asked_hi (by assumption) (by assumption)); omega)))
  k_with "binaryOp FloorDiv int int" => (((refine floordiv_int ?ke ?_ ?kp); (case ke => first | exact Mine.pow_ne _ | exact Mine.two_pow_ne _); (case kp => exact Or.inr (PySem.PylongRoom.of (by first | assumption | (refine PySem.Heap.NoLimit.keeps ?_ (PyProof.Rows.Fr.keep (by assumption)); first | assumption | exact PyProof.Rows.Glob.nolimit (by assumption) | exact PyProof.Rows.Top.nolimit (by assumption)) | exact PyProof.Rows.Glob.nolimit (by assumption) | exact PyProof.Rows.Top.nolimit (by assumption)) (of_decide_eq_true (by with_unfolding_all rfl))))))
  k_with "binaryOp Mod int int" => (k_here; (with_reducible refine mod_int' ?ke ?_); (case ke => exact Mine.pow_ne _))
  k_with "CompEnd" => (((rename News _ _ _ _ => nE'); (rename Fr _ _ _ _ => fE'); (refine LCg.CompEnd.intro fE' nE' _ (fun p hp => hp) ?ko ?ks ?_); (case ko => first | assumption | (simp only [LCg.Off3, and_true]; assumption)); (case ks => lcg_src)))
  k_with "end" => first
    | exact (Mine.end1 (by assumption) (by assumption)).elim
    | exact (Mine.end2 (by assumption) (by assumption) (by assumption) (by assumption)).elim
    | exact (Mine.end3 (by assumption) (by assumption) (by assumption) (by assumption)).elim
    | exact (Mine.end4 (by assumption) (by assumption) (by assumption) (by assumption)).elim
    | exact (Mine.end5 (by assumption) (by assumption) (by assumption) (by assumption)).elim
  open_k
