import PyProof.Rows.All
import Wide.All
import OpenK.AllK
import Wide.FinOn
import PySem.Challenge.RW_dm0103_04
open PySem PySem.W PyProof.Rows
set_option Elab.async false
namespace Mine
open PySem.Builtin.Int (intBits)
/-- below nought: never nought -/
theorem neg_and {n : Int} (h : n < 0) : Builtin.bitAnd n (n - 1) ≠ 0 := by
  rw [bitAnd_nn (by omega) (by omega)]
  unfold Builtin.bitNot
  omega
/-- the halving of n & (n - 1) -/
theorem and_odd {n : Int} (h : n % 2 = 1) : Builtin.bitAnd n (n - 1) = 2 * (n / 2) := by
  rw [kbt_halves, if_neg (by omega), show (n - 1) / 2 = n / 2 from by omega, bitAnd_self]
  omega
theorem and_even {n : Int} (h : n % 2 = 0) : Builtin.bitAnd n (n - 1) = 2 * Builtin.bitAnd (n / 2) (n / 2 - 1) := by
  rw [kbt_halves, if_neg (by omega), show (n - 1) / 2 = n / 2 - 1 from by omega]
  omega
/-- a single bit is a power of two -/
theorem pow_of_and : ∀ (m : Nat) (n : Int), 1 ≤ n → n.toNat = m → Builtin.bitAnd n (n - 1) = 0 → ∃ j : Nat, n = 2 ^ j := by
  intro m
  induction m using Nat.strongRecOn with
  | ind m ih =>
    intro n h1 hm h0
    rcases Int.emod_two_eq n with e | e
    · rw [and_even e] at h0
      obtain ⟨j, hj⟩ := ih (n / 2).toNat (by omega) (n / 2) (by omega) rfl (by omega)
      exact ⟨j + 1, by rw [Int.pow_succ, ← hj]; omega⟩
    · rw [and_odd e] at h0
      exact ⟨0, by rw [Int.pow_zero]; omega⟩
theorem odd_dvd {n : Nat} (h : n % 2 = 1) : ∀ k : Nat, n ∣ 2 ^ k → n = 1
  | 0, hd => by simpa using hd
  | k + 1, hd => by
    refine odd_dvd h k ?_
    rw [Nat.pow_succ] at hd
    refine Nat.Coprime.dvd_of_dvd_mul_right ?_ hd
    rw [Nat.coprime_comm]
    unfold Nat.Coprime
    rw [Nat.gcd_rec, h]; rfl
/-- what divides a power of two is a single bit -/
theorem and_of_dvd : ∀ (m : Nat) (k : Nat) (n : Int), 1 ≤ n → n.toNat = m → m ∣ 2 ^ k → Builtin.bitAnd n (n - 1) = 0 := by
  intro m
  induction m using Nat.strongRecOn with
  | ind m ih =>
    intro k n h1 hm hd
    rcases Int.emod_two_eq n with e | e
    · rw [and_even e]
      cases k with
      | zero => rw [Nat.pow_zero] at hd; have := Nat.le_of_dvd (by decide) hd; omega
      | succ k =>
        have hd' : (n / 2).toNat ∣ 2 ^ k := by
          obtain ⟨c, hc⟩ := hd
          refine ⟨c, ?_⟩
          have : m = 2 * (n / 2).toNat := by omega
          rw [this, Nat.pow_succ, Nat.mul_assoc] at hc
          omega
        rw [ih (n / 2).toNat (by omega) k (n / 2) (by omega) rfl hd']
        rfl
    · have := odd_dvd (n := m) (by omega) k hd
      rw [and_odd e]; omega
theorem told_is {n g : Int} (h1 : ¬ n < 1) (h2 : ¬ g < n) (hk : ∃ k : Nat, g = 2 ^ k) : (Builtin.bitAnd n (n - 1) == 0) = (g.fmod n == 0) := by
  obtain ⟨k, hk⟩ := hk
  rw [Int.fmod_eq_emod_of_nonneg _ (by omega)]
  apply Bool.eq_iff_iff.mpr
  rw [beq_iff_eq, beq_iff_eq]
  have hc : g = ((2 ^ k : Nat) : Int) := by rw [hk, kbt_cast]
  have hn : n = ((n.toNat : Nat) : Int) := by omega
  constructor
  · intro h
    obtain ⟨j, hj⟩ := pow_of_and _ n (by omega) rfl h
    have hjk : j ≤ k := by
      have hj' : n = ((2 ^ j : Nat) : Int) := by rw [hj, kbt_cast]
      exact (Nat.pow_le_pow_iff_right (a := 2) (by decide)).mp (by omega)
    refine Int.emod_eq_zero_of_dvd ⟨2 ^ (k - j), ?_⟩
    rw [hk, hj, ← Int.pow_add]
    congr 1; omega
  · intro h
    refine and_of_dvd n.toNat k n (by omega) rfl ?_
    have hd := Int.dvd_of_emod_eq_zero h
    rw [hc, hn] at hd
    exact Int.natCast_dvd_natCast.mp hd
theorem differ_no {a b : Bool} (h : a = b) : ¬ ((a != b) = true) := by subst h; simp

/-! the loop's word: great is a power of two -/
theorem start : 2 ≤ (2 : Int) ∧ ∃ k : Nat, (2 : Int) = 2 ^ k := ⟨by decide, 1, rfl⟩
theorem square {g : Int} (h2 : 2 ≤ g) : 2 * g ≤ g * g := Int.mul_le_mul_of_nonneg_right h2 (by omega)
theorem turn {g : Int} (h2 : 2 ≤ g) (h : ∃ k : Nat, g = 2 ^ k) : 2 ≤ g * g ∧ ∃ k : Nat, g * g = 2 ^ k := by
  obtain ⟨k, hk⟩ := h
  have := square h2
  refine ⟨by omega, k + k, by rw [hk, Int.pow_add]⟩
theorem less {n g : Int} (h2 : 2 ≤ g) (h : g < n) : (n - g * g).toNat < (n - g).toNat := by
  have := square h2
  omega
theorem bits_le {n : Int} {ns : List Int} (h : n ∈ ns ++ [0]) (hl : PyData.layable0 (.list (ns.map .int)) = true) : intBits n ≤ 2 ^ 20 := by
  rcases List.mem_append.mp h with h | h
  · exact intBits_le_of_item h hl
  · rw [List.mem_singleton.mp h]; decide
theorem mul_ok {n g : Int} {ns : List Int} (h : n ∈ ns ++ [0]) (hl : PyData.layable0 (.list (ns.map .int)) = true) (h2 : 2 ≤ g) (hg : g < n) : IntMulOk g g :=
  have e : intBits g ≤ 2 ^ 20 := intBits_le_of_natAbs (by omega) (bits_le h hl)
  IntMulOk.of_bits e e
theorem neg_told {n : Int} (h0 : ¬ n = 0) (h : n < 1) : (Builtin.bitAnd n (n - 1) == 0) = false := by
  rw [beq_eq_false_iff_ne]
  exact neg_and (by omega)
end Mine
set_option maxRecDepth 100000 in
set_option maxHeartbeats 8000000 in
theorem PySem.Challenge.cw_dm0103_04_holds : PySem.Challenge.rw_dm0103_04.Holds := by
  k_with "exec For" => ((with_reducible show wpAny _ _ (exec (Stmt.For (Expr.Name _ _) (Expr.BinOp _ _ _ _) _ [] _) _) _ _ _); with_unfolding_all ((rename Fr _ _ _ _ => F'); (refine For_invVF F' (by rfl) (by rfl) ?_)))
  k_with "pyIter ref" => k_search (fun (pre : List Int) => True)
  k_with "exec While Compare cons nil" => k_while_given ["number"] (fun n script g => 2 ≤ g ∧ ∃ k : Nat, g = 2 ^ k) (fun n script g => (n - g).toNat) "great"
  k_with "state" => first | exact Mine.start | exact Mine.turn (by assumption) (by assumption)
  k_with "measure" => exact Mine.less (by assumption) (by assumption)
  k_with "binaryOp Mult int int" => ((have hM9 := Mine.mul_ok (by assumption) (by assumption) (by assumption) (by assumption)); (with_reducible refine mul_int ?_ hM9))
  k_with "end" => first
    | exact absurd (by assumption) (Mine.differ_no (Mine.neg_told (by assumption) (by assumption)))
    | exact absurd (by assumption) (Mine.differ_no (Mine.told_is (by assumption) (by assumption) (by assumption)))
  open_k
