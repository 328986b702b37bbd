import PyProof.Rows.All
import Wide.All
import OpenK.AllK
import Wide.FinOn
import PySem.Challenge.RW_dm0103_01
open PySem PySem.W PyProof.Rows
set_option Elab.async false
namespace Mine
open PySem.Builtin.Int (intBits)
/-- the number without its sign -/
theorem abs_is (n : Int) : (if n < 0 then -n else n) = (n.natAbs : Int) := by split <;> omega
theorem bits_zero {n : Int} (h : (if n < 0 then -n else n) = 0) : ((intBits n : Nat) : Int) - 1 = -1 := by
  have e : n = 0 := by split at h <;> omega
  subst e; rfl
theorem bits_pos {n : Int} (h : (if n < 0 then -n else n) ≠ 0) : n.natAbs ≠ 0 ∧ intBits n = n.natAbs.log2 + 1 := by
  have e : n ≠ 0 := by intro e; subst e; exact h rfl
  refine ⟨by omega, ?_⟩
  unfold PySem.Builtin.Int.intBits
  rw [if_neg (by simpa using e)]
theorem bits_low {n : Int} (h : (if n < 0 then -n else n) ≠ 0) : (2 : Int) ^ (((intBits n : Nat) : Int) - 1).toNat ≤ (if n < 0 then -n else n) := by
  obtain ⟨e, hb⟩ := bits_pos h
  rw [abs_is, hb, show ((((n.natAbs.log2 + 1 : Nat) : Int)) - 1).toNat = n.natAbs.log2 from by omega]
  exact_mod_cast Nat.log2_self_le e
theorem bits_high {n : Int} (h : (if n < 0 then -n else n) ≠ 0) : (if n < 0 then -n else n) < (2 : Int) ^ (((intBits n : Nat) : Int) - 1 + 1).toNat := by
  obtain ⟨e, hb⟩ := bits_pos h
  rw [abs_is, hb, show ((((n.natAbs.log2 + 1 : Nat) : Int)) - 1 + 1).toNat = n.natAbs.log2 + 1 from by omega]
  exact_mod_cast Nat.lt_log2_self
theorem bits_le {n : Int} {ns : List Int} (h : n ∈ ns ++ [0]) (hl : PyData.layable0 (.list (ns.map .int)) = true) : intBits n ≤ 1048576 := by
  rcases List.mem_append.mp h with h | h
  · exact intBits_le_of_item h hl
  · rw [List.mem_singleton.mp h]; decide
theorem bits_ge {n : Int} (h : (if n < 0 then -n else n) ≠ 0) : 0 ≤ ((intBits n : Nat) : Int) - 1 := by
  obtain ⟨_, hb⟩ := bits_pos h
  rw [hb]; omega
theorem two_bits : intBits 2 = 2 := by decide
/-- two to a place: its size -/
theorem pow_room {k : Int} (h : k ≤ 1048576) : ((intBits 2 : Nat) : Int) * k ≤ 2 ^ 27 := by
  rw [two_bits]; omega
end Mine
set_option maxRecDepth 100000 in
set_option maxHeartbeats 8000000 in
theorem PySem.Challenge.cw_dm0103_01_holds : PySem.Challenge.rw_dm0103_01.Holds := by
  k_with "exec For" => ((with_reducible show wpAny _ _ (exec (Stmt.For (Expr.Name _ _) (Expr.BinOp _ _ _ _) _ [] _) _) _ _ _); with_unfolding_all ((rename Fr _ _ _ _ => F'); (refine For_invVF F' (by rfl) (by rfl) ?_)))
  k_with "pyIter ref" => k_search (fun (pre : List Int) => True)
  k_with "binaryOp Pow int int" => ((have hB9 := Mine.bits_le (by assumption) (by assumption)); (have hG9 := Mine.bits_ge (by assumption)); (with_reducible refine pow_int ?ka ?kb ?_); (case ka => omega); (case kb => exact Mine.pow_room (by omega)))
  k_with "end" => first
    | exact absurd (Mine.bits_zero (by assumption)) (by assumption)
    | exact absurd (Mine.bits_low (by assumption)) (by assumption)
    | exact absurd (Mine.bits_high (by assumption)) (by assumption)
  open_k
