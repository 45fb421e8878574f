import PyProof.Rows.All
import Wide.All
import OpenK.AllK
import Wide.FinOn
import PyProof.Walk
import PyProof.WalkLemmas
import PyProof.AssignAttr
import PyProof.AttrMissHeap
import PyProof.InstNe
import PyProof.ListRange
import PyProof.Rows.CallKwBuiltin
import OpenK.KMake
import KE.KDictOf
import KE.KSuperObj
import OpenK.XGo
import Lean
import PySem.Challenge.RW_mq0081_01
set_option Elab.async false
set_option autoImplicit false
set_option linter.unusedVariables false
set_option linter.unusedSimpArgs false
set_option linter.unusedSectionVars false
set_option linter.deprecated false
set_option maxRecDepth 100000
set_option maxHeartbeats 8000000
set_option pp.deepTerms false
set_option hygiene false
set_option tactic.hygienic false
open PySem PySem.W PyProof.Rows
-- the top's facts are asked with the piece of the heap written out: else the quick form of «heap_39» (1.5 MB) is laid and then left
namespace Mq
set_option hygiene false in
local macro_rules | `(tactic| o_head ($f $k $a $p $t)) => `(tactic| (refine (fun (_ : ?K39 = $k) => ?main) ?h39; (case h39 => (unfold hx.heap_39; exact rfl)); o_head (id ($f ?K39 $a $p $t))))
open_top hx for PySem.Challenge.rw_mq0081_01
end Mq
set_option tactic.hygienic false
/-! small arithmetic facts -/
namespace Mq
theorem ar1 : ∀ {n0 n1 n2 n3 : Nat}, n1 ≤ n3 → n0 + n3 < n2 → n0 + n1 < n2 := by intro n0 n1 n2 n3 h1 h2; exact Nat.lt_of_le_of_lt (Nat.add_le_add_left h1 _) h2
theorem ar2 : ∀ {n0 n1 n2 n3 : Nat}, n1 ≤ n3 → n0 + 8 * n3 < n2 → n0 + 8 * n1 < n2 := by intro n0 n1 n2 n3 h1 h2; exact Nat.lt_of_le_of_lt (Nat.add_le_add_left (Nat.mul_le_mul_left 8 h1) _) h2
theorem ar3 : ∀ {n0 n1 n2 : Nat}, n0 + (n1 + 1) < n2 → n0 + 1 + n1 < n2 := by intro n0 n1 n2 h1; rw [Nat.add_assoc, Nat.add_comm 1]; exact h1
theorem ar4 : ∀ {n0 n1 n2 : Nat}, n0 + 8 * (n1 + 1) < n2 → n0 + 3 + 8 * n1 < n2 := by intros; lia
theorem ar5 : ∀ {n0 n1 n2 : Nat}, n0 + (n1 + 1) < n2 → n0 + n1 < n2 := by intro n0 n1 n2 h1; exact Nat.lt_of_succ_lt h1
theorem ar6 : ∀ {n0 n1 n2 : Nat}, n0 + 8 * (n1 + 1) < n2 → n0 + 1 + 8 * n1 < n2 := by intros; lia
theorem ar7 : ∀ {n0 : Nat}, n0 ≤ 1000 → n0 ≤ 16777216 := by intros; lia
theorem ar8 : ∀ {n0 n1 : Nat}, n0 + n1 ≤ 100000 → n0 + n1 ≤ 16777216 := by intros; lia
theorem ar9 : ∀ {z0 : Int} {n0 n1 : Nat}, n0 ≤ 100000 → z0.toNat < n1 → n1 = n0 → z0 < 2 ^ 63 := by intro z0 n0 n1 h1 h2 h3; subst h3; exact Int.lt_of_le_of_lt (Int.self_le_toNat z0) (Int.lt_of_lt_of_le (Int.ofNat_lt.mpr h2) (Int.le_trans (Int.ofNat_le.mpr h1) (by decide)))
theorem ar10 : ∀ {n0 : Nat} {z0 : Int} {n1 : Nat}, -(↑n1 : Int) ≤ z0 → n0 = n1 → -(↑n0 : Int) ≤ z0 := by intro n0 z0 n1 h1 h2; exact le_of_eq_of_le (congrArg Neg.neg (congrArg Nat.cast h2)) h1
theorem ar11 : ∀ {z0 : Int} {n0 : Nat}, -(↑n0 : Int) ≤ z0 → n0 ≤ 100000 → -2 ^ 63 ≤ z0 := by intros; lia
theorem ar12 : ∀ {z0 : Int}, 0 ≤ z0 → -2 ^ 63 ≤ z0 := by intros; lia
theorem ar13 : ∀ {z0 : Int}, 0 ≤ z0 → ¬z0 < 0 := by intro z0 h1; exact Int.not_lt_of_ge h1
theorem ar14 : ∀ {z0 : Int} {n0 n1 : Nat}, z0.toNat < n1 → n1 = n0 → z0 < (↑n0 : Int) := by intro z0 n0 n1 h1 h2; subst h2; exact Int.lt_of_le_of_lt (Int.self_le_toNat z0) (Int.ofNat_lt.mpr h1)
theorem ar15 : ∀ {n0 n1 n2 : Nat}, n2 < n1 → n0 + 1 ≤ n2 → n0 ≤ n1 := by intro n0 n1 n2 h1 h2; exact Nat.le_trans (Nat.le_of_succ_le h2) (Nat.le_of_lt h1)
theorem ar16 : ∀ {n0 n1 : Nat}, n0 + 1 ≤ n1 → n0 ≤ n1 := by intro n0 n1 h1; exact Nat.le_of_succ_le h1
theorem ar17 : ∀ {n0 n1 n2 : Nat}, n0 + n2 < n1 → n0 < n1 := by intro n0 n1 n2 h1; exact Nat.lt_of_add_right_lt h1
theorem ar18 : ∀ {n0 n1 n2 : Nat}, n0 = n2 → n2 < n1 → n0 ≤ n1 := by intros; omega
theorem ar19 : ∀ {n0 n1 : Nat}, n1 < n0 → n0 ≠ n1 := by intro n0 n1 h1; exact Ne.symm (Nat.ne_of_lt h1)
theorem ar20 : ∀ {n0 n1 : Nat}, n1 < n0 → n0 + 1 ≠ n1 := by intros; lia
theorem ar21 : ∀ {n0 n1 n2 : Nat}, n0 < n2 → n2 ≤ n1 → n0 ≤ n1 := by intros; omega
theorem ar22 : ∀ {n0 : Nat}, n0 ≤ n0 + 1 := by intro n0 ; exact Nat.le_add_right n0 1
theorem ar23 : ∀ {n0 n1 n2 n3 : Nat}, n0 ≤ n3 + n2 → n3 ≤ n1 + 1 → n0 ≤ n1 + (n2 + 1) := by intro n0 n1 n2 n3 h1 h2; exact Nat.le_trans h1 (Nat.le_trans (Nat.add_le_add_right h2 _) (Nat.le_of_eq (Nat.succ_add_eq_add_succ n1 n2)))
theorem ar24 : ∀ {n0 : Nat}, 0 ≤ (↑n0 : Int) := by intro n0 ; exact Int.natCast_nonneg n0
theorem ar25 : ∀ {n0 n1 : Nat}, n1 ≤ 500 → n0 = n1 → n0 ≤ 100000 := by intros; lia
theorem ar26 : ∀ {n0 : Nat}, n0 ≤ 1000 → n0 ≤ 100000 := by intros; lia
theorem ar27 : ∀ {n0 n1 : Nat}, n0 + 0 = n1 → n0 = n1 := by intro n0 n1 h1; exact Nat.add_right_cancel h1
theorem ar28 : ∀ {n0 n1 n2 : Nat}, n0 + (n2 + 1) = n1 → n0 < n1 := by intros; omega
theorem ar29 : ∀ {n0 n1 n2 : Nat}, n1 ≤ 1000 → min n0 (min n1 n2) ≤ 16777216 := by intro n0 n1 n2 h1; exact Nat.le_trans (Nat.min_le_right _ _) (Nat.le_trans (Nat.min_le_left _ _) (Nat.le_trans h1 (by decide)))
theorem ar30 : ∀ {n0 n1 n2 : Nat}, n0 < min n2 n1 → n0 < n1 := by intro n0 n1 n2 h1; exact Nat.lt_of_lt_of_le h1 (Nat.min_le_right _ _)
theorem ar31 : ∀ {n0 n1 n2 : Nat}, n0 < min n1 n2 → n0 < n1 := by intro n0 n1 n2 h1; exact Nat.lt_of_lt_of_le h1 (Nat.min_le_left _ _)
theorem ar32 : ∀ {n0 n1 n2 n3 : Nat}, n0 + (n3 + 1) = n1 → n2 = n0 → min n0 n1 = n2 := by intro n0 n1 n2 n3 h1 h2; subst h1; subst h2; exact Nat.min_eq_left (Nat.le_add_right _ _)
theorem ar33 : ∀ {n0 n1 n2 : Nat}, n0 + (n1 + 1) = n2 → n0 + 1 + n1 = n2 := by intros; lia
theorem ar34 : ∀ {n0 : Nat}, 0 + n0 = n0 := by intro n0 ; exact Nat.zero_add n0
theorem ar35 : ∀ {n0 n1 n2 : Nat}, n0 + (n2 + 1) < n1 → n0 < n1 := by intro n0 n1 n2 h1; exact Nat.lt_of_add_right_lt h1
theorem ar36 : ∀ {n0 n1 n2 : Nat}, n0 = n2 → n1 = n2 → n0 ≤ n1 := by intros; lia
theorem ar37 : -2 ^ 62 ≤ 0 := by intros; lia
theorem ar38 : 0 < 2 ^ 62 := by intros; lia
theorem ar39 : ∀ {n0 : Nat}, -2 ^ 62 ≤ (↑n0 : Int) := by intro n0 ; exact Int.neg_ofNat_le_natCast (2 ^ 62) n0
theorem ar40 : ∀ {n0 : Nat}, n0 < 2 ^ 60 → (↑n0 : Int) < 2 ^ 62 := by intros; lia
theorem ar41 : ∀ {n0 : Nat}, 0 ≤ n0 := by intro n0 ; exact Nat.zero_le n0
theorem ar42 : ∀ {n0 : Nat}, n0 + 1 = n0 + 1 - 0 := by intro n0 ; exact Nat.add_succ n0 0
theorem ar43 : ∀ {n0 n1 : Nat}, n1 ≤ n0 → n0 + 1 - (n1 + 1) < n0 + 1 - n1 := by intro n0 n1 h1; rw [Nat.add_sub_add_right]; exact Nat.sub_lt_sub_right h1 (Nat.lt_succ_self _)
theorem ar44 : ∀ {n0 n1 : Nat}, n0 ≤ n1 → ¬n0 < n1 → n0 = n1 := by intros; lia
theorem ar45 : ∀ {z0 : Int} {n0 : Nat}, z0 < 0 → -(↑n0 : Int) ≤ z0 → (z0 + (↑n0 : Int)).toNat < n0 := by intro z0 n0 h1 h2; exact (Int.toNat_lt (by have := Int.add_le_add_right h2 (n0 : Int); rwa [Int.add_left_neg] at this)).mpr (by have := Int.add_lt_add_right h1 (n0 : Int); rwa [Int.zero_add] at this)
theorem ar46 : ∀ {n0 n1 : Nat}, n1 ≤ 1000 → n0 = n1 → n0 ≤ 100000 := by intros; omega
theorem ar47 : ∀ {z0 : Int} {n0 n1 : Nat}, z0 < 0 → -(↑n0 : Int) ≤ z0 → n1 = n0 → (z0 + (↑n0 : Int)).toNat < n1 := by intro z0 n0 n1 h1 h2 h3; subst h3; exact ar45 h1 h2
theorem ar48 : ∀ {z0 : Int} {n0 : Nat}, -(↑n0 : Int) ≤ z0 → n0 ≤ 1000 → -2 ^ 63 ≤ z0 := by intros; lia
theorem ar49 : ∀ {n0 n1 n2 : Nat}, n1 + n2 ≤ 1000 → n0 = n1 → n0 ≤ 16777216 := by intros; lia
theorem ar50 : ∀ {n0 n1 n2 n3 : Nat}, n1 + n2 ≤ n3 → n0 + n1 + n2 ≤ n0 + n3 := by intros; lia
theorem ar51 : ∀ {n0 n1 n2 : Nat}, 120 ≤ n1 → n0 + n1 < n2 → n2 = 1000 → n0 ≤ 880 := by intro n0 n1 n2 h1 h2 h3; subst h3; exact Nat.le_of_add_le_add_right (b := 120) (Nat.le_trans (Nat.add_le_add_left h1 _) (Nat.le_of_lt h2))
theorem ar52 : ∀ {n0 n1 n2 : Nat}, 120 ≤ n1 → n0 + 8 * n1 < n2 → n2 = 9900 → n0 ≤ 8950 := by intro n0 n1 n2 h1 h2 h3; subst h3; exact Nat.le_of_add_le_add_right (b := 950) (Nat.le_trans (Nat.add_le_add_left (Nat.le_trans (by decide : 950 ≤ 8 * 120) (Nat.mul_le_mul_left 8 h1)) _) (Nat.le_of_lt h2))
theorem ar53 : ∀ {n0 : Nat}, n0 ≤ 1000 → ¬n0 > 16777216 := by intros; omega
theorem ar54 : ∀ {n0 : Nat}, n0 ≤ 100 → ¬n0 ≥ 16777216 := by intros; lia
theorem ar55 : ∀ {n0 n1 : Nat}, n0 ≤ 880 → n1 = 1000 → n0 < n1 := by intros; lia
theorem ar56 : ∀ {n0 n1 : Nat}, n0 + 150 < n1 → n0 < n1 := by intro n0 n1 h1; exact Nat.lt_of_add_right_lt h1
theorem ar57 : ∀ {n0 n1 n2 : Nat}, 9 ≤ n2 → n0 + 8 * n2 < n1 → n0 + 64 < n1 := by intro n0 n1 n2 h1 h2; exact Nat.lt_of_le_of_lt (Nat.add_le_add_left (Nat.le_trans (by decide) (Nat.mul_le_mul_left 8 h1)) _) h2
theorem ar58 : ∀ {n0 n1 n2 : Nat}, 1 ≤ n2 → n0 + 8 * n2 < n1 → n0 + 1 < n1 := by intro n0 n1 n2 h1 h2; exact Nat.lt_of_le_of_lt (Nat.add_le_add_left (Nat.le_trans (by decide) (Nat.mul_le_mul_left 8 h1)) _) h2
theorem ar59 : ∀ {n0 : Nat}, n0 ≤ 1 → max 1 n0 ≤ 1 := by intro n0 h1; exact Nat.max_le.mpr ⟨Nat.le_refl _, h1⟩
theorem ar60 : ∀ {n0 : Nat}, n0 ≤ 1 → n0 ≤ 63 := by intros; lia
theorem ar61 : ∀ {n0 n1 : Nat}, n1 ≤ 100000 → n0 = n1 → (↑n0 : Int) < 2 ^ 63 := by intro n0 n1 h1 h2; exact Int.lt_of_le_of_lt (Int.ofNat_le.mpr (Nat.le_trans (Nat.le_of_eq h2) h1)) (by decide)
theorem ar62 : ∀ {z0 : Int}, 0 ≤ z0 → z0 = (↑z0.toNat : Int) := by intro z0 h1; exact Int.eq_natCast_toNat.mpr h1
theorem ar63 : ∀ {n0 n1 : Nat}, n1 ≤ 100000 → n0 = n1 → n0 ≤ 16777216 := by intros; omega
theorem ar64 : ∀ {n0 n1 n2 : Nat}, n0 = n2 → n2 ≤ n1 → n0 ≤ n1 := by intro n0 n1 n2 h1 h2; exact le_of_eq_of_le h1 h2
theorem ar65 : ∀ {n0 : Nat}, n0 ≤ 12 → n0 ≤ 99986 := by intros; lia
theorem ar66 : ∀ {n0 : Nat}, n0 ≤ 12 → n0 ≤ 986 := by intros; lia
theorem ar67 : ∀ {z0 : Int}, z0 < 8 → z0.toNat < 8 := by intro z0 h1; exact (Int.toNat_lt' (by decide)).mpr h1
theorem ar68 : ∀ {n0 : Nat}, n0 ≤ 12 → n0 ≤ 99985 := by intros; lia
theorem ar69 : ∀ {z0 : Int} {n0 : Nat}, z0 = 1 ∨ z0 = 2 ∨ z0 = 255 → 0 < z0 ∧ z0 < 256 + (↑n0 : Int) := by intros; lia
theorem ar70 : ∀ {n0 n1 : Nat}, n0 < n1 → 0 < 256 + (↑n0 : Int) ∧ 256 + (↑n0 : Int) < 256 + (↑n1 : Int) := by intros; omega
theorem ar71 : ∀ {n0 n1 : Nat}, n0 < n1 - 1 → n0 < n1 := by intro n0 n1 h1; exact Nat.lt_of_lt_pred h1
theorem ar72 : ∀ {n0 n1 : Nat}, n0 < n1 - 1 → n0 + 1 < n1 := by intro n0 n1 h1; exact Nat.add_lt_of_lt_sub h1
theorem ar73 : ∀ {n0 : Nat}, n0 + 1 ≤ 3 → n0 < 3 := by intro n0 h1; exact Nat.lt_of_succ_le h1
theorem ar74 : ∀ {z0 : Int}, 0 < z0 → z0 ≠ 0 := by intro z0 h1; exact Ne.symm (Int.ne_of_lt h1)
theorem ar75 : ∀ {n0 : Nat}, n0 + 1 ≤ 4 → n0 ≤ 4 := by intro n0 h1; exact Nat.le_of_succ_le h1
theorem ar76 : ∀ {n0 : Nat}, n0 + 1 ≤ 4 → n0 ≤ 3 := by intro n0 h1; exact Nat.le_of_lt_succ h1
theorem ar77 : ∀ {n0 : Nat}, ¬n0 < 0 := by intro n0 ; exact Nat.not_lt_zero n0
theorem ar78 : ∀ {n0 n1 n2 : Nat}, n1 = n2 → n0 < n2 → n0 < n1 := by intro n0 n1 n2 h1 h2; exact Nat.lt_of_lt_of_eq h2 (id (Eq.symm h1))
theorem ar79 : ∀ {n0 n1 : Nat}, n0 < n1 + 1 → ¬n0 < n1 → n0 = n1 := by intro n0 n1 h1 h2; exact Nat.eq_of_lt_succ_of_not_lt h1 h2
theorem ar80 : ∀ {n0 n1 : Nat}, n0 = n1 → n0 ≤ n1 := by intro n0 n1 h1; exact Nat.le_of_eq h1
theorem ar81 : ∀ {n0 : Nat}, n0 < 4 → n0 ≤ 4 := by intro n0 h1; exact Nat.le_of_succ_le h1
theorem ar82 : ∀ {n0 : Nat}, n0 < 4 → n0 ≤ 3 := by intro n0 h1; exact Nat.le_of_lt_succ h1
theorem ar83 : ∀ {z0 : Int} {n0 : Nat}, z0 < 256 + (↑n0 : Int) → z0 ≠ 256 + (↑n0 : Int) := by intro z0 n0 h1; exact Int.ne_of_lt h1
theorem ar84 : ∀ {z0 : Int} {n0 : Nat}, z0 = 0 → z0 ≠ 256 + (↑n0 : Int) := by intros; omega
theorem ar85 : ∀ {z0 : Int}, z0 < 256 + (↑0 : Int) → z0 < 256 := by intro z0 h1; exact Int.lt_of_add_one_le h1
theorem ar86 : ∀ {z0 : Int} {n0 n1 : Nat}, n1 + 1 ≤ n0 → z0 < 256 + (↑(n1 + 1) : Int) → (z0 - 256).toNat < n0 := by intros; omega
theorem ar87 : ∀ {z0 : Int} {n0 : Nat} {z1 : Int}, z1 < 256 + (↑(n0 + 1) : Int) → z0 < 256 + (↑(z1 - 256).toNat : Int) → z0 < 256 + (↑n0 : Int) := by intros; omega
theorem ar88 : ∀ {n0 n1 : Nat}, n1 < n0 → n0 = n0 - 1 + 1 := by intros; lia
theorem ar89 : ∀ {z0 : Int} {n0 : Nat}, z0 = 256 + (↑n0 : Int) → (z0 - 256).toNat = n0 := by intro z0 n0 h1; subst h1; rw [Int.add_comm, Int.add_sub_cancel]; rfl
theorem ar90 : ∀ {z0 : Int} {n0 : Nat}, z0 = 256 + (↑n0 : Int) → ¬z0 < 256 := by intros; lia
theorem ar91 : ∀ {n0 n1 : Nat}, n1 = n0 + 1 → n0 ≤ n1 := by intro n0 n1 h1; exact Nat.le.intro (id (Eq.symm h1))
theorem ar92 : ∀ {n0 n1 : Nat}, n1 = n0 + 1 → n0 + 1 ≤ n1 := by intro n0 n1 h1; exact Nat.le_of_eq (id (Eq.symm h1))
theorem ar93 : ∀ {z0 : Int} {n0 n1 n2 : Nat}, n1 < n2 → z0 < 256 + (↑n1 : Int) → n2 = n0 + 1 → z0 < 256 + (↑n0 : Int) := by intros; omega
theorem ar94 : ∀ {z0 : Int} {n0 n1 n2 : Nat}, n1 < n2 → z0 < 256 + (↑n1 : Int) → n2 = n0 + 1 → z0 < 256 + (↑(n0 + 1) : Int) := by intros; lia
theorem ar95 : ∀ {n0 n1 : Nat}, n0 + 1 ≤ n1 → n0 < n1 := by intro n0 n1 h1; exact Nat.lt_of_succ_le h1
theorem ar96 : ∀ {n0 n1 n2 : Nat}, n2 + 1 ≤ n1 → n0 < n2 → n0 < n1 := by intro n0 n1 n2 h1 h2; exact Nat.lt_trans h2 h1
theorem ar97 : ∀ {z0 : Int} {n0 n1 : Nat}, n1 < n0 → z0 = 256 + (↑n1 : Int) → z0 < 256 + (↑n0 : Int) := by intro z0 n0 n1 h1 h2; subst h2; exact Int.add_lt_add_left (Int.ofNat_lt.mpr h1) _
theorem ar98 : ∀ {z0 : Int} {n0 : Nat} {z1 : Int}, z0 = 256 + (↑n0 : Int) → z1 = z0 → z1 < 256 + (↑n0 : Int) → False := by intros; lia
theorem ar99 : ∀ {z0 : Int} {n0 : Nat} {z1 : Int}, z0 < 256 + (↑(n0 + 1) : Int) → z1 = 256 + (↑n0 : Int) → ¬z0 = z1 → z0 < 256 + (↑n0 : Int) := by intros; lia
theorem ar100 : 0 ≤ 4 := by intros; lia
theorem ar101 : ∀ {z0 : Int}, z0 = 0 → z0 < 256 := by intros; omega
theorem ar102 : ∀ {z0 : Int} {n0 : Nat}, z0 = 0 → z0 < 256 + (↑n0 : Int) := by intros; lia
theorem ar103 : 3 < 4 := by intros; lia
theorem ar104 : 2 < 4 := by intros; lia
theorem ar105 : 1 < 4 := by intros; lia
theorem ar106 : 0 < 4 := by intros; lia
theorem ar107 : 4 ≤ 4 := by intros; lia
theorem ar108 : ∀ {n0 n1 : Nat}, ¬n1 < n0 → n0 ≤ n1 := by intro n0 n1 h1; exact Nat.le_of_not_lt h1
theorem ar109 : ∀ {z0 z1 : Int}, z0 < z1 → z0 ≤ z1 := by intro z0 z1 h1; exact Int.le_of_lt h1
theorem ar110 : ∀ {z0 z1 : Int}, ¬z1 = z0 → ¬z1 < z0 → z0 < z1 := by intro z0 z1 h1 h2; exact Int.lt_iff_le_and_ne.mpr ⟨Int.not_lt.mp h2, Ne.symm h1⟩
theorem ar111 : ∀ {z0 z1 : Int}, z0 < z1 → z0 < z1 := by intro z0 z1 h1; exact Int.lt_of_add_one_le h1
theorem ar112 : ∀ {z0 z1 : Int}, ¬z1 < z0 → z0 ≤ z1 := by intro z0 z1 h1; exact Int.not_lt.mp h1
theorem ar113 : ∀ {z0 : Int}, 0 < z0 → ¬0 = z0 := by intro z0 h1; exact Int.ne_of_lt h1
theorem ar114 : ∀ {z0 : Int}, 0 < z0 → ¬z0 = 0 := by intro z0 h1; exact Int.ne_of_gt h1
theorem ar115 : ∀ {z0 : Int}, 0 < z0 → ¬z0 < 0 := by intro z0 h1; exact Int.lt_asymm h1
theorem ar116 : ∀ {z0 z1 : Int}, ¬z0 = z1 → ¬z0 - z1 = 0 := by intros; lia
theorem ar117 : ∀ {z0 z1 : Int}, z0 < z1 → (z0 - z1 < 0 ↔ -1 < 0) ∧ (0 < z0 - z1 ↔ 0 < -1) ∧ (z0 - z1 = 0 ↔ -1 = 0) := by intro z0 z1 h1; have h : z0 - z1 < 0 := Int.sub_neg_of_lt h1; exact ⟨iff_of_true h (by decide), iff_of_false (Int.not_lt.mpr (Int.le_of_lt h)) (by decide), iff_of_false (Int.ne_of_lt h) (by decide)⟩
theorem ar118 : ∀ {z0 z1 : Int}, ¬z0 - z1 = 0 → ¬z0 < z1 → (z0 - z1 < 0 ↔ 1 < 0) ∧ (0 < z0 - z1 ↔ 0 < 1) ∧ (z0 - z1 = 0 ↔ 1 = 0) := by intro z0 z1 h1 h2; have h : 0 < z0 - z1 := Int.lt_iff_le_and_ne.mpr ⟨Int.sub_nonneg.mpr (Int.not_lt.mp h2), Ne.symm h1⟩; exact ⟨iff_of_false (Int.not_lt.mpr (Int.le_of_lt h)) (by decide), iff_of_true h (by decide), iff_of_false h1 (by decide)⟩
theorem ar119 : ∀ {n0 : Nat}, (-1 + (↑n0 : Int)).toNat = n0 - 1 := by intro n0 ; rw [Int.add_comm]; exact Int.toNat_sub n0 1
theorem ar120 : ∀ {n0 n1 n2 : Nat}, n1 ≤ 500 → n0 ≤ min n2 n1 → n0 ≤ 500 := by intro n0 n1 n2 h1 h2; exact Nat.le_trans h2 (Nat.le_trans (Nat.min_le_right _ _) h1)
theorem ar121 : ∀ {n0 : Nat}, 0 < n0 → -(↑n0 : Int) ≤ -1 := by intros; lia
theorem ar122 : ∀ {n0 : Nat}, 0 < n0 → n0 - 1 < n0 := by intro n0 h1; exact Nat.sub_one_lt_of_lt h1
theorem ar123 : ∀ {n0 n1 : Nat}, n1 ≤ 500 → n0 = n1 → n0 ≤ 1000 := by intros; omega
theorem ar124 : ∀ {n0 n1 n2 : Nat}, n1 ≤ 2 * n2 → n0 ≤ 2 → n0 + n1 ≤ 2 * (n2 + 1) := by intro n0 n1 n2 h1 h2; rw [Nat.mul_succ, Nat.add_comm]; exact Nat.add_le_add h1 h2
theorem ar125 : ∀ {n0 n1 : Nat}, n1 ≤ 500 → n0 ≤ 2 * n1 → n0 ≤ 1000 := by intros; lia
theorem ar126 : ∀ {n0 n1 n2 : Nat}, n2 ≤ n1 → n0 ≤ n2 → n0 ≤ n1 := by intro n0 n1 n2 h1 h2; exact Nat.le_trans h2 h1
theorem ar127 : ∀ {n0 : Nat}, 0 < n0 → 0 < (↑n0 : Int) := by intro n0 h1; exact Int.natCast_pos.mpr h1
theorem ar128 : ∀ {z0 : Int} {n0 : Nat}, 0 < n0 → z0 < (↑n0 : Int) → z0.toNat < n0 := by intro z0 n0 h1 h2; exact (Int.toNat_lt' h1).mpr h2
theorem ar129 : ∀ {n0 n1 n2 : Nat}, n1 ≤ 400 → n2 ≤ n1 → n0 = n2 → n0 ≤ 100000 := by intros; lia
theorem ar130 : ∀ {n0 n1 : Nat}, n1 ≤ 400 → n0 ≤ n1 → n0 - 1 < 2 ^ 60 := by intro n0 n1 h1 h2; exact Nat.lt_of_le_of_lt (Nat.le_trans (Nat.sub_le _ _) (Nat.le_trans h2 h1)) (by decide)
theorem ar131 : ∀ {n0 : Nat}, ((↑n0 : Int) - 1).toNat = n0 - 1 := by intros; lia
theorem ar132 : ∀ {n0 n1 n2 : Nat}, n0 = n1 → n2 + 1 < n1 → 0 ≤ (↑n0 : Int) - 1 := by intros; lia
theorem ar133 : ∀ {n0 n1 n2 : Nat}, n1 ≤ 400 → n2 ≤ n1 → n0 ≤ n2 - 1 → n0 ≤ 1000 := by intro n0 n1 n2 h1 h2 h3; exact Nat.le_trans h3 (Nat.le_trans (Nat.sub_le _ _) (Nat.le_trans h2 (Nat.le_trans h1 (by decide))))
theorem ar134 : ∀ {n0 n1 : Nat}, n0 + 1 < n1 → n0 < n1 := by intro n0 n1 h1; exact Nat.lt_of_succ_lt h1
theorem ar135 : ∀ {n0 n1 n2 : Nat}, n1 ≤ 400 → n2 ≤ n1 → n0 ≤ n2 - 1 → n0 ≤ 400 := by intro n0 n1 n2 h1 h2 h3; exact Nat.le_trans h3 (Nat.le_trans (Nat.sub_le _ _) (Nat.le_trans h2 h1))
theorem ar136 : ∀ {n0 n1 : Nat}, n1 < 4 → n0 = n1 → n0 ≤ 1000 := by intros; lia
theorem ar137 : ∀ {n0 n1 : Nat}, n1 ≤ 400 → n0 ≤ n1 → n0 ≤ 500 := by intros; lia
theorem ar138 : ∀ {n0 : Nat}, n0 ≤ 400 → n0 ≤ 100000 := by intros; lia
theorem ar139 : ∀ {n0 : Nat}, 0 < n0 → (↑n0 : Int) ≠ 0 := by intro n0 h1; exact Int.natCast_ne_zero_iff_pos.mpr h1
theorem ar140 : ∀ {n0 : Nat}, 1 ≤ (↑n0 : Int) + 1 := by intros; lia
theorem ar141 : ∀ {n0 n1 : Nat}, n1 < 4 → n0 = n1 → n0 ≤ 999 := by intros; lia
theorem ar142 : ∀ {n0 : Nat}, (-1 + ((↑n0 : Int) + 1)).toNat = n0 := by intro n0 ; rw [Int.add_comm]; exact Int.toNat_sub (n0 + 1) 1
theorem ar143 : ∀ {n0 : Nat}, n0 ≤ 500 → n0 ≤ 99999 := by intros; lia
theorem ar144 : ∀ {n0 n1 : Nat}, n1 ≤ 2 ^ 8 → n0 ≤ n1 → n0 ≤ 100000 := by intros; lia
theorem ar145 : ∀ {n0 : Nat}, n0 ≤ 8 → n0 ≤ 10 := by intros; lia
theorem ar146 : ∀ {n0 : Nat}, n0 ≤ 8 → n0 + 11 ≤ 30 := by intros; lia
theorem ar147 : ∀ {n0 n1 n2 n3 n4 : Nat}, n1 ≤ 500 → n2 ≤ 2 ^ 8 → n3 ≤ n2 → n0 ≤ n1 + min n4 n3 → n0 ≤ 1000 := by intro n0 n1 n2 n3 n4 h1 h2 h3 h4; exact Nat.le_trans h4 (Nat.le_trans (Nat.add_le_add h1 (Nat.le_trans (Nat.min_le_right _ _) (Nat.le_trans h3 h2))) (by decide))
theorem ar148 : ∀ {n0 : Nat}, n0 ≤ 1000 → 1 + n0 ≤ 100000 := by intros; lia
theorem ar149 : ∀ {n0 : Nat}, n0 ≤ 500 → 1 + n0 ≤ 100000 := by intros; lia
theorem ar150 : ∀ {n0 n1 : Nat}, n0 ≤ 1000 → min n0 n1 ≤ 16777216 := by intro n0 n1 h1; exact Nat.le_trans (Nat.min_le_left _ _) (Nat.le_trans h1 (by decide))
theorem ar151 : ∀ {n0 : Nat}, ¬(↑n0 : Int) < 0 := by intro n0 ; exact Int.not_ofNat_neg n0
theorem ar152 : ∀ {n0 n1 : Nat}, n1 ≤ 1000 → n0 < n1 → (↑n0 : Int) < 2 ^ 63 - 1 := by intro n0 n1 h1 h2; exact Int.lt_of_lt_of_le (Int.ofNat_lt.mpr (Nat.lt_of_lt_of_le h2 h1)) (by decide)
theorem ar153 : ∀ {n0 n1 n2 : Nat}, n0 < n2 → n2 < n1 → n0 < n1 := by intro n0 n1 n2 h1 h2; exact Nat.lt_trans h1 h2
theorem ar154 : ∀ {n0 : Nat}, n0 < n0 → False := by intros; lia
theorem ar155 : ∀ {n0 n1 : Nat}, n0 < n1 + 2 → ¬n0 < n1 + 1 → n0 = n1 + 1 := by intro n0 n1 h1 h2; exact Nat.eq_of_lt_succ_of_not_lt h1 h2
theorem ar156 : ∀ {n0 n1 : Nat}, n0 < n1 + 1 → ¬n0 = n1 → n0 < n1 := by intro n0 n1 h1 h2; exact Nat.lt_of_le_of_ne (Nat.le_of_lt_succ h1) h2
theorem ar157 : ∀ {n0 : Nat}, n0 < n0 + 1 := by intro n0 ; exact Nat.lt_add_one n0
theorem ar158 : ∀ {n0 n1 n2 : Nat}, n0 ≤ n2 → n2 ≤ n1 → n0 ≤ n1 := by intro n0 n1 n2 h1 h2; exact Nat.le_trans h1 h2
theorem ar159 : ∀ {n0 n1 : Nat}, n0 < n1 → n0 < n1 + 1 := by intro n0 n1 h1; exact Nat.lt_add_right 1 h1
theorem ar160 : ∀ {n0 : Nat}, n0 ≤ n0 := by intro n0 ; exact Nat.le_refl n0
theorem ar161 : ∀ {n0 n1 : Nat}, n0 + 0 = n1 → n0 ≤ n1 := by intro n0 n1 h1; exact Nat.le_of_eq h1
theorem ar162 : ∀ {n0 n1 : Nat}, n0 + 0 = n1 → ¬n0 < n1 := by intros; lia
theorem ar163 : ∀ {n0 n1 n2 : Nat}, n0 + (n2 + 1) = n1 → n0 ≤ n1 := by intro n0 n1 n2 h1; exact Nat.le.intro h1
theorem ar164 : ∀ {n0 : Nat}, 1 ≤ n0 → n0 - 1 < n0 := by intro n0 h1; exact Nat.sub_one_lt_of_lt h1
theorem ar165 : ∀ {n0 n1 : Nat}, n0 < n1 → n0 < n1 := by intro n0 n1 h1; exact Nat.lt_of_succ_le h1
theorem ar166 : ∀ {n0 : Nat}, 1 ≤ n0 → n0 = n0 - 1 + 1 := by intro n0 h1; exact (Nat.sub_eq_iff_eq_add h1).mp rfl
theorem ar167 : ∀ {n0 : Nat}, 1 ≤ n0 + 1 := by intro n0 ; exact Nat.le_add_left 1 n0
theorem ar168 : ∀ {n0 : Nat}, (n0 - (n0 - 1)) / 2 = 0 := by intro n0 ; cases n0 with | zero => rfl | succ n => show (n + 1 - n) / 2 = 0; rw [Nat.add_sub_cancel_left]
theorem ar169 : ∀ {n0 n1 n2 : Nat}, n2 < n1 → n1 < n0 → 0 + n0 - 1 - n1 < 0 + n0 - 1 - n2 := by intro n0 n1 n2 h1 h2; exact Nat.sub_lt_sub_left (Nat.lt_of_lt_of_le (Nat.lt_of_lt_of_le h1 (Nat.le_sub_one_of_lt h2)) (Nat.sub_le_sub_right (Nat.le_add_left _ _) 1)) h1
theorem ar170 : ∀ {n0 n1 n2 : Nat}, n2 < n0 → 0 + n0 - 1 - n1 < n0 := by intro n0 n1 n2 h1; exact Nat.lt_of_le_of_lt (Nat.sub_le _ _) (by rw [Nat.zero_add]; exact Nat.sub_lt (Nat.zero_lt_of_lt h1) Nat.one_pos)
theorem ar171 : ∀ {n0 n1 : Nat}, n1 ≤ n0 → ¬(0 ≤ n0 ∧ n0 < n1) := by intros; omega
theorem ar172 : ∀ {n0 n1 : Nat}, n1 < n0 → 0 + n0 - 1 - n1 < n0 := by intro n0 n1 h1; exact Nat.lt_of_le_of_lt (Nat.sub_le _ _) (by rw [Nat.zero_add]; exact Nat.sub_lt (Nat.zero_lt_of_lt h1) Nat.one_pos)
theorem ar173 : ∀ {n0 n1 n2 n3 : Nat}, n3 < n2 → n0 - (n1 + 1) ≤ n3 → n0 - (n1 + 1) ≤ n2 := by intros; lia
theorem ar174 : ∀ {n0 n1 n2 : Nat}, n0 - (n1 + 1) ≤ n2 → n0 - (n1 + 1) ≤ n2 := by intro n0 n1 n2 h1; exact String.Pos.Raw.mk_le_mk.mp h1
theorem ar175 : ∀ {n0 n1 n2 : Nat}, n2 < n0 → n0 - (n1 + 1) ≤ n0 - (n1 + 1) + n0 - 1 - n2 := by intro n0 n1 n2 h1; exact Nat.le_sub_of_add_le (by lia)
theorem ar176 : ∀ {n0 n1 n2 n3 : Nat}, n3 < n2 → n2 < n0 → n0 - (n1 + 1) + n0 - 1 - n2 < n0 - (n1 + 1) + n0 - 1 - n3 := by intro n0 n1 n2 n3 h1 h2; exact Nat.sub_lt_sub_left (Nat.lt_of_lt_of_le (Nat.lt_of_lt_of_le h1 (Nat.le_sub_one_of_lt h2)) (Nat.sub_le_sub_right (Nat.le_add_left _ _) 1)) h1
theorem ar177 : ∀ {n0 n1 n2 : Nat}, n1 + 1 ≤ n0 → n0 - (n1 + 1) ≤ n2 → n0 - (n1 + 1) + n0 - 1 - n2 < n0 := by intros; omega
theorem ar178 : ∀ {n0 n1 n2 : Nat}, ¬n0 - (n1 + 1) ≤ n2 → ¬(n0 - (n1 + 1) ≤ n2 ∧ n2 < n0) := by intro n0 n1 n2 h1; exact not_and.mpr fun a a_1 => h1 a
theorem ar179 : ∀ {n0 n1 n2 : Nat}, ¬n1 - (n2 + 1) ≤ n0 → n0 < n1 - (n2 + 1) := by intro n0 n1 n2 h1; exact Nat.lt_of_not_le h1
theorem ar180 : ∀ {n0 n1 n2 : Nat}, n0 ≤ n2 → ¬(n0 - (n1 + 1) ≤ n2 ∧ n2 < n0) := by intros; lia
theorem ar181 : ∀ {n0 n1 n2 : Nat}, n0 - (n1 + 1) ≤ n2 ∧ n2 < n0 → n0 - (n1 + 1) + n0 - 1 - n2 < n0 := by intros; omega
theorem ar182 : ∀ {n0 : Nat}, 0 + 1 ≤ n0 + 1 := by intro n0 ; exact Nat.le_add_left (0 + 1) n0
theorem ar183 : ∀ {n0 n1 : Nat}, n0 < n1 + 1 - (0 + 1) → n0 < n1 := by intro n0 n1 h1; exact Nat.lt_of_succ_le h1
theorem ar184 : ∀ {n0 n1 n2 : Nat}, n0 + 1 - (0 + 1) ≤ n1 → n1 < n2 → n2 < n0 + 1 → False := by intros; lia
theorem ar185 : ∀ {n0 n1 : Nat}, n1 + 1 - (0 + 1) ≤ n0 → n0 < n1 + 1 → n0 = n1 := by intro n0 n1 h1 h2; exact Nat.eq_of_le_of_lt_succ h1 h2
theorem ar186 : ∀ {n0 n1 : Nat}, n0 < n1 → ¬n0 = n1 - 1 → n0 < n1 - 1 := by intro n0 n1 h1 h2; exact Nat.lt_of_le_of_ne (Nat.le_sub_one_of_lt h1) h2
theorem ar187 : ∀ {n0 : Nat}, ¬n0 > 0 → n0 = 0 := by intro n0 h1; exact Nat.eq_zero_of_not_pos h1
theorem ar188 : ∀ {n0 n1 : Nat}, n1 + 1 ≤ n0 → 1 ≤ n0 := by intro n0 n1 h1; exact Nat.one_le_of_lt h1
theorem ar189 : ∀ {n0 n1 n2 n3 : Nat}, n0 + (n2 + 1) = n3 → n3 ≤ n1 → n0 ≤ n1 := by intro n0 n1 n2 n3 h1 h2; subst h1; exact Nat.le_trans (Nat.le_add_right _ _) h2
theorem ar190 : ∀ {n0 n1 : Nat}, n1 + 1 ≤ n0 → n0 - 1 < n0 := by intro n0 n1 h1; exact Nat.sub_one_lt_of_lt h1
theorem ar191 : ∀ {n0 n1 : Nat}, n0 - (n1 + 1) ≤ n0 - 1 := by intro n0 n1 ; exact Nat.sub_le_sub_left (Nat.le_add_left 1 _) _
theorem ar192 : ∀ {n0 n1 : Nat}, n0 + 1 ≤ n1 → n0 + 1 + 1 ≤ n1 + 1 := by intro n0 n1 h1; exact Nat.add_le_add_right h1 1
theorem ar193 : ∀ {n0 n1 n2 : Nat}, n0 < n1 + 1 - (n2 + 1 + 1) → n0 < n1 - (n2 + 1) := by intros; lia
theorem ar194 : ∀ {n0 n1 n2 : Nat}, n0 + 1 - (n1 + 1 + 1) ≤ n2 → n0 - (n1 + 1) ≤ n2 := by intros; lia
theorem ar195 : ∀ {n0 n1 : Nat}, n1 < n0 → n0 - 1 < n0 := by intro n0 n1 h1; exact Nat.sub_one_lt_of_lt h1
theorem ar196 : ∀ {n0 n1 : Nat}, n0 ≤ n1 → n0 + (n1 - n0) = n1 := by intro n0 n1 h1; exact Nat.add_sub_of_le h1
theorem ar197 : ∀ {n0 n1 : Nat}, n0 < n1 → n0 + 1 + (n1 - (n0 + 1)) = n1 := by intro n0 n1 h1; exact Nat.add_sub_of_le h1
theorem ar198 : ∀ {n0 n1 n2 n3 : Nat}, n2 ≤ n3 → n0 ≤ n2 → n1 = n3 → n0 ≤ n1 := by intro n0 n1 n2 n3 h1 h2 h3; subst h3; exact Nat.le_trans h2 h1
theorem ar199 : ∀ {n0 n1 n2 : Nat}, n0 ≤ n2 → n1 = n2 → n0 ≤ n1 := by intro n0 n1 n2 h1 h2; exact le_of_le_of_eq h1 (id (Eq.symm h2))
theorem ar200 : ∀ {n0 n1 n2 : Nat}, n1 + 1 ≤ n2 → n2 ≤ n0 → 1 ≤ n0 := by intro n0 n1 n2 h1 h2; exact Nat.le_trans (Nat.le_trans (Nat.succ_le_succ (Nat.zero_le _)) h1) h2
theorem ar201 : ∀ {n0 : Nat}, n0 < 1 → n0 = 0 := by intro n0 h1; exact Nat.lt_one_iff.mp h1
theorem ar202 : 0 ≤ 0 := by intros; lia
theorem ar203 : ∀ {n0 : Nat}, 1 ≤ n0 → 0 < n0 := by intro n0 h1; exact Nat.zero_lt_of_lt h1
theorem ar204 : 0 < 1 := by intros; lia
theorem ar205 : 1 ≤ 1 := by intros; lia
theorem ar206 : ∀ {n0 : Nat}, 1 ≤ n0 → 1 + (n0 - 1) = n0 := by intro n0 h1; exact Nat.add_sub_of_le h1
theorem ar207 : ∀ {n0 n1 : Nat}, n0 < n1 → n1 < 1 → False := by intros; lia
theorem ar208 : 0 ≤ 1 := by intros; lia
theorem ar209 : ∀ {n0 n1 : Nat}, n0 ≤ n1 → ¬n0 = n1 → n0 < n1 := by intro n0 n1 h1 h2; exact Nat.lt_of_le_of_ne h1 h2
theorem ar210 : ∀ {n0 : Nat}, 1 ≤ n0 → 1 ≤ n0 := by intro n0 h1; exact Nat.one_le_of_lt h1
theorem ar211 : ∀ {n0 : Nat}, 0 ≤ n0 - 1 := by intro n0 ; exact Nat.zero_le (n0 - 1)
theorem ar212 : ∀ {n0 : Nat}, 0 + n0 - 1 - (n0 - 1) = 0 := by intros; lia
theorem ar213 : ∀ {n0 : Nat}, 1 ≤ n0 → ¬n0 > 1 → n0 = 1 := by intros; lia
theorem ar214 : ∀ {n0 : Nat}, 1 ≤ n0 → ¬1 = n0 → 1 < n0 := by intro n0 h1 h2; exact Nat.lt_of_le_of_ne h1 h2
theorem ar215 : ∀ {n0 n1 n2 : Nat}, n0 - n2 ≤ 0 → n2 ≤ n1 → n0 ≤ n1 := by intro n0 n1 n2 h1 h2; exact Nat.le_trans (Nat.sub_eq_zero_iff_le.mp (Nat.le_zero.mp h1)) h2
theorem ar216 : ∀ {n0 n1 n2 : Nat}, n2 ≥ n0 → n2 ≤ n1 → n0 ≤ n1 := by intro n0 n1 n2 h1 h2; exact Nat.le_trans h1 h2
theorem ar217 : ∀ {n0 n1 n2 : Nat}, n1 - n0 ≤ n2 + 1 → (n0 + n1) / 2 - n0 ≤ n2 := by intro n0 n1 n2 h1; exact Nat.sub_le_of_le_add (Nat.le_of_lt_succ (Nat.div_lt_of_lt_mul (by have := Nat.le_add_of_sub_le h1; lia)))
theorem ar218 : ∀ {n0 n1 : Nat}, n0 ≤ n1 → n0 ≤ (n0 + n1) / 2 := by intros; omega
theorem ar219 : ∀ {n0 n1 n2 : Nat}, n0 ≤ n1 → n1 ≤ n2 → (n0 + n1) / 2 ≤ n2 := by intro n0 n1 n2 h1 h2; exact Nat.le_trans (Nat.div_le_of_le_mul (by lia)) h2
theorem ar220 : ∀ {n0 n1 n2 : Nat}, (n0 + n1) / 2 ≤ n2 → ¬n2 = (n0 + n1) / 2 → (n0 + n1) / 2 < n2 := by intro n0 n1 n2 h1 h2; exact Nat.lt_of_le_of_ne h1 fun a => h2 (id (Eq.symm a))
theorem ar221 : ∀ {n0 n1 n2 : Nat}, n0 - n1 ≤ n2 + 1 → n0 - ((n1 + n0) / 2 + 1) ≤ n2 := by intro n0 n1 n2 h1; exact Nat.sub_le_of_le_add (Nat.le_of_lt_succ (by have := Nat.le_add_of_sub_le h1; lia))
theorem ar222 : ∀ {n0 n1 : Nat}, ¬n0 ≥ n1 → (n0 + n1) / 2 + 1 ≤ n1 := by intros; lia
theorem ar223 : ∀ {n0 n1 n2 : Nat}, n0 < (n1 + n2) / 2 + 1 → ¬n0 = (n1 + n2) / 2 → n0 < (n1 + n2) / 2 := by intros; lia
theorem ar224 : ∀ {n0 n1 n2 : Nat}, n1 ≤ n2 → ¬n0 ≥ n1 → (n0 + n1) / 2 < n2 := by intros; lia
theorem ar225 : ∀ {n0 n1 : Nat}, n0 - n1 ≤ n0 := by intro n0 n1 ; exact Nat.sub_le _ _
theorem ar226 : ∀ {n0 n1 : Nat}, n1 ≤ n0 → n0 - (n0 - n1) = n1 := by intro n0 n1 h1; exact Nat.sub_sub_self h1
theorem ar227 : ∀ {n0 n1 n2 : Nat}, n2 < n0 → n2 = n1 → ¬n0 = n1 := by intros; lia
theorem ar228 : ∀ {n0 n1 n2 n3 : Nat}, n3 < n1 → n1 < n2 + 1 → n3 = n0 → n0 < n1 ∧ n1 ≤ n2 := by intro n0 n1 n2 n3 h1 h2 h3; exact ⟨h3 ▸ h1, Nat.le_of_lt_succ h2⟩
theorem ar229 : ∀ {n0 n1 n2 : Nat}, n2 < n1 → n2 = n0 → n0 ≤ n1 - 1 := by intro n0 n1 n2 h1 h2; exact h2 ▸ Nat.le_sub_one_of_lt h1
theorem ar230 : ∀ {n0 n1 n2 : Nat}, n2 < n0 → n0 < n1 + 1 → n0 - 1 < n1 := by intro n0 n1 n2 h1 h2; exact Nat.sub_lt_left_of_lt_add (Nat.succ_le_of_lt (Nat.zero_lt_of_lt h1)) (by rw [Nat.add_comm]; exact h2)
theorem ar231 : ∀ {n0 n1 n2 n3 : Nat}, n1 < n3 → n3 = n0 → ¬(n0 < n1 ∧ n1 ≤ n2) := by intros; lia
theorem ar232 : ∀ {n0 n1 n2 : Nat}, n0 < n2 → n2 = n1 → n0 < n1 := by intro n0 n1 n2 h1 h2; exact Nat.lt_of_lt_of_eq h1 h2
theorem ar233 : ∀ {n0 n1 n2 : Nat}, n0 < n2 → n2 < n1 + 1 → n0 < n1 := by intros; lia
theorem ar234 : ∀ {n0 n1 n2 n3 : Nat}, n1 < n3 → n3 < n2 + 1 → n0 < n1 → n0 < n1 ∧ n1 ≤ n2 := by intro n0 n1 n2 n3 h1 h2 h3; exact ⟨h3, Nat.le_of_lt (Nat.lt_of_lt_of_le h1 (Nat.le_of_lt_succ h2))⟩
theorem ar235 : ∀ {n0 n1 n2 n3 : Nat}, n3 < n1 → n1 < n2 + 1 → n0 < n3 → n0 < n1 ∧ n1 ≤ n2 := by intro n0 n1 n2 n3 h1 h2 h3; exact ⟨Nat.lt_trans h3 h1, Nat.le_of_lt_succ h2⟩
theorem ar236 : ∀ {n0 n1 n2 : Nat}, n0 < n1 → n2 < n0 → n0 - 1 < n1 - 1 := by intro n0 n1 n2 h1 h2; exact Nat.sub_lt_sub_right (Nat.succ_le_of_lt (Nat.zero_lt_of_lt h2)) h1
theorem ar237 : ∀ {n0 n1 n2 : Nat}, ¬n0 < n1 → ¬(n0 < n1 ∧ n1 ≤ n2) := by intro n0 n1 n2 h1; exact not_and.mpr fun a a_1 => h1 a
theorem ar238 : ∀ {n0 n1 n2 : Nat}, n1 < n2 + 1 → n0 < n1 → n0 < n1 ∧ n1 ≤ n2 := by intro n0 n1 n2 h1 h2; exact ⟨h2, Nat.le_of_lt_succ h1⟩
theorem ar239 : ∀ {n0 n1 n2 : Nat}, ¬n0 = n2 → ¬n2 < n0 → n2 < n1 → n0 < n1 - 1 := by intro n0 n1 n2 h1 h2 h3; exact Nat.lt_sub_of_add_lt (Nat.lt_of_le_of_lt (Nat.lt_of_le_of_ne (Nat.le_of_not_lt h2) h1) h3)
theorem ar240 : ∀ {n0 n1 n2 : Nat}, n2 ≤ n1 → ¬n0 = n2 → ¬n2 < n0 → n0 < n1 := by intro n0 n1 n2 h1 h2 h3; exact Nat.lt_of_lt_of_le (Nat.lt_of_le_of_ne (Nat.le_of_not_lt h3) h2) h1
theorem ar241 : ∀ {n0 n1 n2 : Nat}, n1 ≤ n2 → n2 + 1 ≤ n0 → ¬n0 = n1 := by intros; lia
theorem ar242 : ∀ {n0 n1 n2 : Nat}, n2 + 1 ≤ n1 → ¬(n0 < n1 ∧ n1 ≤ n2) := by intros; lia
theorem ar243 : ∀ {n0 n1 : Nat}, n0 = n1 → n0 < n1 + 1 := by intros; omega
theorem ar244 : ∀ {n0 n1 n2 : Nat}, n2 ≤ n1 → n0 < n1 + 1 → ¬n0 = n2 → n0 - 1 < n1 := by intro n0 n1 n2 h1 h2 h3; cases n0 with | zero => exact Nat.lt_of_lt_of_le (Nat.pos_of_ne_zero (Ne.symm h3)) h1 | succ n => exact Nat.lt_of_succ_lt_succ h2
theorem ar245 : ∀ {n0 n1 n2 : Nat}, n2 ≤ n1 → n0 < n1 + 1 → ¬n0 = n2 → ¬(n2 < n0 ∧ n0 ≤ n1) → n0 < n1 := by intro n0 n1 n2 h1 h2 h3 h4; exact Nat.lt_of_lt_of_le (Nat.lt_of_le_of_ne (Nat.le_of_not_lt fun q => h4 ⟨q, Nat.le_of_lt_succ h2⟩) h3) h1
theorem ar246 : ∀ {n0 : Nat}, n0 - 0 ≤ n0 := by intro n0 ; exact Nat.sub_le n0 0
theorem ar247 : ∀ {n0 : Nat}, n0 < 0 → False := by intro n0 h1; exact Nat.not_succ_le_zero n0 h1
theorem ar248 : ∀ {n0 n1 : Nat}, n0 ≤ n1 → n1 < n0 → False := by intros; lia
theorem ar249 : ∀ {n0 n1 n2 n3 : Nat}, n0 + (n2 + 1) = n3 → n3 ≤ n1 → n0 < n1 := by intros; omega
theorem ar250 : ∀ {n0 n1 : Nat}, n1 = n0 → n0 ≤ n1 := by intro n0 n1 h1; exact Nat.le_of_eq (id (Eq.symm h1))
theorem ar251 : ∀ {n0 : Nat}, 1 ≤ n0 → max n0 1 = n0 := by intro n0 h1; exact Nat.max_eq_left h1
theorem ar252 : ∀ {z0 z1 : Int}, z1 < z0 → ¬z0 < z1 := by intro z0 z1 h1; exact Int.lt_asymm h1
theorem ar253 : ∀ {z0 z1 z2 : Int}, z0 = z2 → ¬z2 = z1 → ¬z0 = z1 := by intro z0 z1 z2 h1 h2; exact Eq.mpr_not (congrFun (congrArg Eq h1) z1) h2
theorem ar254 : ∀ {z0 z1 z2 : Int}, z0 = z2 → z2 < z1 → z0 < z1 := by intro z0 z1 z2 h1 h2; exact lt_of_eq_of_lt h1 h2
theorem ar255 : ∀ {z0 z1 z2 : Int}, ¬z0 = z2 → z2 = z1 → ¬z0 = z1 := by intro z0 z1 z2 h1 h2; exact Eq.mpr_not (congrArg (Eq z0) (id (Eq.symm h2))) h1
theorem ar256 : ∀ {z0 z1 z2 : Int}, z0 < z2 → z2 = z1 → z0 < z1 := by intro z0 z1 z2 h1 h2; exact lt_of_lt_of_eq h1 h2
theorem ar257 : ∀ {z0 z1 z2 : Int}, z0 < z2 → z2 < z1 → ¬z0 = z1 := by intros; omega
theorem ar258 : ∀ {z0 z1 z2 : Int}, z0 < z2 → z2 < z1 → z0 < z1 := by intro z0 z1 z2 h1 h2; exact Int.lt_trans h1 h2
theorem ar259 : ∀ {z0 : Int}, ¬z0 < 0 ↔ -z0 ≤ 0 := by intros; lia
theorem ar260 : ∀ {z0 : Int}, z0 < 0 → z0 ≤ 0 := by intro z0 h1; exact Int.le_of_lt h1
theorem ar261 : ∀ {z0 : Int} {n0 n1 : Nat}, ¬(z0 < 0 ∨ z0 = 0 ∧ n0 < n1) ↔ -z0 < 0 ∨ -z0 = 0 ∧ n1 ≤ n0 := by intros; omega
theorem ar262 : ∀ {z0 : Int} {n0 n1 : Nat}, z0 < 0 ∨ z0 = 0 ∧ n0 < n1 → z0 < 0 ∨ z0 = 0 ∧ n0 ≤ n1 := by intro z0 n0 n1 h1; exact h1.imp id (fun h => ⟨h.1, Nat.le_of_lt h.2⟩)
theorem ar263 : ∀ {z0 : Int} {n0 n1 : Nat}, z0 < 0 ∨ z0 = 0 ∧ n0 ≤ n1 → z0 ≤ 0 := by intros; lia
theorem ar264 : ∀ {z0 : Int}, z0 ≤ 0 → ¬z0 < 0 → z0 = 0 := by intros; omega
theorem ar265 : ∀ {n0 n1 : Nat} {z0 : Int} {n2 : Nat} {z1 : Int}, z0 < 0 ∨ z0 = 0 ∧ n0 ≤ n2 → z1 < 0 ∨ z1 = 0 ∧ n2 ≤ n1 → z0 = -z1 → n0 ≤ n1 := by intros; lia
theorem ar266 : ∀ {z0 : Int}, z0 = 0 → z0 ≤ 0 := by intro z0 h1; exact Int.le_of_eq h1
theorem ar267 : ∀ {z0 z1 : Int}, (0 < z0 ↔ 0 < z1) → (z0 ≤ 0 ↔ z1 ≤ 0) := by intro z0 z1 h1; exact Int.not_lt.symm.trans ((not_congr h1).trans Int.not_lt)
theorem ar268 : ∀ {z0 z1 : Int}, (z0 < 0 ↔ z1 < 0) → (0 ≤ z0 ↔ 0 ≤ z1) := by intro z0 z1 h1; exact Int.not_lt.symm.trans ((not_congr h1).trans Int.not_lt)
theorem ar269 : ∀ {z0 : Int}, z0 = 0 → 0 ≤ z0 := by intro z0 h1; exact Int.le_of_eq (id (Eq.symm h1))
theorem ar270 : ∀ {z0 : Int}, 0 < z0 → 0 ≤ z0 := by intro z0 h1; exact Int.le_of_lt h1
theorem ar271 : ∀ {z0 : Int}, 0 ≤ z0 → z0 ≠ 0 → 0 < z0 := by intro z0 h1 h2; exact Std.lt_of_le_of_ne h1 (id (Ne.symm h2))
theorem ar272 : ∀ {n0 n1 n2 : Nat}, n0 + n1 + n2 = n0 + (n1 + n2) := by intro n0 n1 n2 ; exact Nat.add_assoc n0 n1 n2
theorem ar273 : 0 < 0 → False := by intro  h1; exact Nat.not_succ_le_zero 0 h1
theorem ar274 : ∀ {n0 : Nat}, 256 + (↑n0 : Int) ≠ 0 := by intros; omega
theorem ar275 : ∀ {n0 n1 n2 : Nat}, n1 = 2 → 2 ≤ n0 + n1 + n2 := by intros; lia
theorem ar276 : ∀ {n0 n1 n2 : Nat}, n1 = n2 → 2 ≤ n2 → n1 ≤ n0 → 2 ≤ n0 := by intro n0 n1 n2 h1 h2 h3; subst h1; exact Nat.le_trans h2 h3
theorem ar277 : ∀ {n0 n1 n2 : Nat}, n1 ≤ 12 → n0 ≤ n2 → n2 = n1 + 15 → n0 < 64 := by intro n0 n1 n2 h1 h2 h3; exact Nat.lt_of_le_of_lt (Nat.le_trans h2 (Nat.le_trans (Nat.le_of_eq h3) (Nat.add_le_add_right h1 15))) (by decide)
theorem ar278 : ∀ {n0 n1 n2 : Nat}, n0 = n2 + 1 → n2 + 5 < n1 → n0 < n1 := by intro n0 n1 n2 h1 h2; subst h1; exact Nat.lt_of_le_of_lt (Nat.add_le_add_left (by decide) n2) h2
theorem ar279 : ∀ {n0 : Nat}, n0 ≤ 1000 → (↑n0 : Int) < 2 ^ 62 := by intros; lia
theorem ar280 : ∀ {n0 : Nat}, n0 ≤ 1000 → n0 ≤ 2 ^ 24 := by intros; lia
theorem ar281 : ∀ {n0 : Nat}, 0 + (↑n0 : Int) * 1 = (↑n0 : Int) := by intros; lia
theorem ar282 : ∀ {n0 : Nat}, n0 < 64 → n0 ≤ 16777216 := by intros; omega
theorem ar283 : ∀ {n0 : Nat}, 2 ≤ n0 → ¬n0 < 2 := by intro n0 h1; exact Nat.not_lt.mpr h1
theorem ar284 : ∀ {n0 : Nat}, 2 ≤ n0 → 0 < n0 := by intro n0 h1; exact Nat.zero_lt_of_lt h1
theorem ar285 : ∀ {n0 : Nat}, n0 < 64 → n0 ≤ 16777216 + 1 := by intros; lia
theorem ar286 : ∀ {n0 n1 n2 n3 : Nat}, n2 = n1 → n3 = n2 → n0 < n3 → n0 < n1 := by intros; lia
theorem ar287 : ∀ {n0 n1 n2 n3 : Nat}, n2 = n1 → n3 = n2 → n0 < n3 → min n0 n1 = n0 := by intro n0 n1 n2 n3 h1 h2 h3; subst h1; subst h2; exact Nat.min_eq_left (Nat.le_of_lt h3)
theorem ar288 : ∀ {n0 n1 n2 : Nat}, n1 < 64 → n2 < n1 → n0 = n2 → n0 ≤ 16777216 := by intro n0 n1 n2 h1 h2 h3; exact Nat.le_trans (Nat.le_of_eq h3) (Nat.le_trans (Nat.le_of_lt (Nat.lt_trans h2 h1)) (by decide))
theorem ar289 : ∀ {n0 n1 n2 : Nat}, n1 < 64 → n2 < n1 → n0 = n2 → n0 + 1 ≤ 16777216 + 1 := by intros; lia
theorem ar290 : ∀ {n0 n1 : Nat}, n1 < 64 → n0 = n1 → n0 ≤ 16777216 := by intros; lia
theorem ar291 : ∀ {n0 n1 : Nat}, 2 ≤ n1 → n0 = n1 → 2 ≤ n0 := by intro n0 n1 h1 h2; exact le_of_le_of_eq h1 (id (Eq.symm h2))
theorem ar292 : ∀ {n0 n1 : Nat}, n1 < 64 → n0 = n1 → n0 < 64 := by intro n0 n1 h1 h2; exact lt_of_eq_of_lt h2 h1
theorem ar293 : ∀ {n0 n1 n2 : Nat}, n2 = n1 → n0 < n2 → n0 < n1 := by intro n0 n1 n2 h1 h2; exact Nat.lt_of_lt_of_eq h2 h1
theorem ar294 : ∀ {n0 n1 n2 : Nat}, n2 < n1 → n0 < n2 → n0 < n1 := by intro n0 n1 n2 h1 h2; exact Nat.lt_trans h2 h1
theorem ar295 : ∀ {z0 z1 : Int} {n0 n1 : Nat}, z0 = z1 → n0 < n1 → z1 = 256 + (↑n1 : Int) → z0 = 256 + (↑n0 : Int) → False := by intros; lia
theorem ar296 : ∀ {n0 n1 : Nat}, n1 ≤ 100 → min n0 n1 ≤ 1000 := by intro n0 n1 h1; exact Nat.le_trans (Nat.min_le_right _ _) (Nat.le_trans h1 (by decide))
theorem ar297 : ∀ {n0 n1 n2 : Nat}, n1 < n2 - n0 → n0 + n1 < n2 := by intro n0 n1 n2 h1; exact Nat.add_lt_of_lt_sub' h1
theorem ar298 : ∀ {n0 n1 : Nat}, n0 ≤ n0 + n1 := by intro n0 n1 ; exact Nat.le_add_right n0 n1
theorem ar299 : ∀ {n0 : Nat}, n0 ≤ 500 → n0 ≤ 1000 := by intros; lia
theorem ar300 : ∀ {n0 : Nat}, n0 ≤ 500 → n0 ≤ 100000 := by intros; lia
theorem ar301 : ∀ {n0 n1 n2 : Nat}, n1 ≤ 500 → n2 < n1 → n0 = n2 → n0 ≤ 1000 := by intros; lia
theorem ar302 : ∀ {n0 n1 n2 : Nat}, n1 ≤ n0 → n0 < n1 + n2 → n0 - n1 < n2 := by intro n0 n1 n2 h1 h2; exact Nat.sub_lt_left_of_lt_add h1 h2
theorem ar303 : ∀ {n0 n1 : Nat}, 0 ≤ (↑(n0 + n1) : Int) := by intro n0 n1 ; exact Int.natCast_nonneg (n0 + n1)
theorem ar304 : ∀ {n0 n1 n2 : Nat}, n0 + n1 < n2 → min (n0 + n1) n2 - n0 = n1 := by intro n0 n1 n2 h1; rw [Nat.min_eq_left (Nat.le_of_lt h1), Nat.add_sub_cancel_left]
theorem ar305 : ∀ {n0 n1 : Nat}, n0 + 8 * 132 < n1 → n0 + 1 < n1 := by intro n0 n1 h1; exact Nat.lt_of_le_of_lt (Nat.add_le_add_left (by decide) n0) h1
theorem ar306 : ∀ {n0 n1 : Nat}, n0 + 8 * 131 < n1 → n0 < n1 := by intro n0 n1 h1; exact Nat.lt_of_add_right_lt h1
theorem ar307 : ∀ {n0 : Nat}, n0 < 64 → n0 ≤ 1000 := by intros; lia
theorem ar308 : ∀ {n0 n1 n2 : Nat}, n2 ≤ n1 → n0 ≤ n2 + 1 → n0 ≤ n1 + 1 := by intros; lia
theorem ar309 : ∀ {n0 n1 : Nat}, n0 ≤ 400 → n0 - (n0 - n1) ≤ 500 := by intro n0 n1 h1; exact Nat.le_trans (Nat.sub_le _ _) (Nat.le_trans h1 (by decide))
theorem ar310 : ∀ {n0 n1 n2 n3 : Nat}, n1 ≤ 400 → n0 ≤ n2 → n3 + n2 = n1 → n0 ≤ 500 := by intro n0 n1 n2 n3 h1 h2 h3; exact Nat.le_trans h2 (Nat.le_trans (Nat.le_trans (Nat.le_add_left _ _) (Nat.le_of_eq h3)) (Nat.le_trans h1 (by decide)))
theorem ar311 : ∀ {n0 : Nat}, min 12 n0 ≤ 100000 := by intros; lia
theorem ar312 : ∀ {n0 n1 : Nat}, n1 ≤ 12 → n0 = n1 + 15 → n0 ≤ 400 := by intro n0 n1 h1 h2; exact Nat.le_trans (Nat.le_of_eq h2) (Nat.le_trans (Nat.add_le_add_right h1 15) (by decide))
theorem ar313 : ∀ {n0 : Nat}, n0 ≤ 12 → n0 ≤ 1000 := by intros; lia
theorem ar314 : ∀ {n0 n1 n2 : Nat}, n1 ≤ 12 → n2 = n1 + 15 → n0 ≤ n2 → n0 ≤ 500 := by intros; lia
theorem ar315 : ∀ {n0 : Nat}, 30 ≤ n0 → 20 + 1 ≤ n0 := by intro n0 h1; exact Nat.le_of_add_left_le h1
theorem ar316 : ∀ {n0 : Nat}, 30 ≤ n0 → 9 ≤ n0 := by intro n0 h1; exact Nat.le_of_add_left_le h1
theorem ar317 : ∀ {n0 n1 : Nat}, n1 = 4 → n0 < n1 → n0 < 4 := by intro n0 n1 h1 h2; exact Nat.lt_of_lt_of_eq h2 h1
theorem ar318 : ∀ {n0 n1 : Nat}, n1 = 4 → n0 < 4 → n0 < n1 := by intro n0 n1 h1 h2; exact Nat.lt_of_lt_of_eq h2 (id (Eq.symm h1))
theorem ar319 : ∀ {n0 : Nat}, 4 - 1 - n0 < 4 := by intro n0 ; exact Nat.sub_lt_succ (4 - 1) n0
theorem ar320 : ∀ {n0 : Nat}, n0 < 4 → 4 - 1 - n0 + 1 = 4 - n0 := by intro n0 h1; exact (by decide : ∀ n : Nat, n < 4 → 4 - 1 - n + 1 = 4 - n) n0 h1
theorem ar321 : ∀ {n0 : Nat}, 4 - (n0 + 1) = 4 - 1 - n0 := by intro n0 ; exact Nat.succ_sub_succ_eq_sub 3 n0
theorem ar322 : ∀ {n0 : Nat}, n0 = 4 → n0 ≤ 100000 := by intros; lia
theorem ar323 : ∀ {n0 n1 : Nat}, n1 ≤ 12 → n0 = n1 + 15 → n0 ≤ 500 := by intros; omega
theorem ar324 : 4 ≤ 100 := by intros; lia
theorem ar325 : ∀ {n0 n1 : Nat}, n0 ≤ n1 → n0 ≤ n1 := by intro n0 n1 h1; exact String.Pos.Raw.mk_le_mk.mp h1
theorem ar326 : ∀ {n0 n1 n2 : Nat} {z0 : Int}, n1 ≤ 12 → n2 = n1 + 15 → n0 ≤ n2 - z0.toNat → n0 ≤ 1000 := by intro n0 n1 n2 z0 h1 h2 h3; exact Nat.le_trans h3 (Nat.le_trans (Nat.sub_le _ _) (Nat.le_trans (Nat.le_of_eq h2) (Nat.le_trans (Nat.add_le_add_right h1 15) (by decide))))
theorem ar327 : ∀ {n0 n1 n2 n3 : Nat}, n1 ≤ 12 → n2 = n1 + 15 → n3 ≤ n2 → n0 = n3 → n0 ≤ 1000 := by intro n0 n1 n2 n3 h1 h2 h3 h4; subst h4; exact Nat.le_trans h3 (Nat.le_trans (Nat.le_of_eq h2) (Nat.le_trans (Nat.add_le_add_right h1 15) (by decide)))
theorem ar328 : ∀ {n0 : Nat}, n0 ≤ 1000 → n0 ≤ 99999 := by intros; lia
theorem ar329 : ∀ {n0 : Nat}, 2 ≤ n0 → 1 ≤ n0 := by intro n0 h1; exact Nat.one_le_of_lt h1
theorem ar330 : ∀ {n0 n1 n2 : Nat}, n0 < n2 → n1 = n2 → n0 < n1 := by intro n0 n1 n2 h1 h2; exact Nat.lt_of_lt_of_eq h1 (id (Eq.symm h2))
theorem ar331 : ∀ {n0 n1 n2 n3 : Nat}, n1 ≤ 12 → n2 = n1 + 15 → n3 ≤ n2 → n0 = n3 → n0 ≤ 100000 := by intros; omega
theorem ar332 : ∀ {n0 n1 n2 : Nat}, n1 ≤ 12 → n2 = n1 + 15 → n0 ≤ n2 → n0 < 2 ^ 60 := by intro n0 n1 n2 h1 h2 h3; exact Nat.lt_of_le_of_lt (Nat.le_trans h3 (Nat.le_trans (Nat.le_of_eq h2) (Nat.add_le_add_right h1 15))) (by decide)
theorem ar333 : ∀ {n0 n1 n2 : Nat}, n1 ≤ 12 → n2 = n1 + 15 → n0 ≤ n2 → n0 ≤ 1000 := by intro n0 n1 n2 h1 h2 h3; exact Nat.le_trans h3 (Nat.le_trans (Nat.le_of_eq h2) (Nat.le_trans (Nat.add_le_add_right h1 15) (by decide)))
theorem ar334 : ∀ {n0 n1 n2 n3 n4 : Nat}, n1 ≤ 12 → n2 = n1 + 15 → n3 ≤ n2 → n4 = n3 → n0 = n4 → n0 ≤ 100000 := by intro n0 n1 n2 n3 n4 h1 h2 h3 h4 h5; subst h4; subst h5; exact Nat.le_trans h3 (Nat.le_trans (Nat.le_of_eq h2) (Nat.le_trans (Nat.add_le_add_right h1 15) (by decide)))
theorem ar335 : ∀ {n0 : Nat}, 30 ≤ n0 → 9 + 2 ≤ n0 := by intro n0 h1; exact Nat.le_of_add_left_le h1
theorem ar336 : ∀ {n0 : Nat}, 9 ≤ n0 → 1 ≤ n0 := by intro n0 h1; exact Nat.one_le_of_lt h1
theorem ar337 : ∀ {n0 : Nat}, 2 ≤ n0 → n0 - 1 < n0 := by intro n0 h1; exact Nat.sub_one_lt_of_lt h1
theorem ar338 : ∀ {n0 n1 : Nat}, n0 < n1 → n0 - 1 < n1 := by intro n0 n1 h1; exact Nat.sub_lt_of_lt h1
theorem ar339 : ∀ {n0 : Nat}, n0 = 0 → (↑n0 : Int) - 1 < 0 := by intros; omega
theorem ar340 : ∀ {n0 n1 n2 : Nat}, 2 ≤ n2 → n0 = n2 → -(↑n0 : Int) ≤ (↑n1 : Int) - 1 := by intros; lia
theorem ar341 : ∀ {n0 n1 : Nat}, n0 = 0 → ((↑n0 : Int) - 1 + (↑n1 : Int)).toNat = n1 - 1 := by intro n0 n1 h1; subst h1; rw [Int.add_comm]; exact Int.toNat_sub n1 1
theorem ar342 : ∀ {n0 : Nat}, ¬n0 = 0 → 0 ≤ (↑n0 : Int) - 1 := by intros; lia
theorem ar343 : ∀ {n0 : Nat}, 133 ≤ n0 → 5 ≤ n0 := by intro n0 h1; exact Nat.le_of_add_left_le h1
theorem ar344 : ∀ {n0 : Nat}, 133 ≤ n0 → 10 ≤ n0 := by intro n0 h1; exact Nat.le_of_add_left_le h1
theorem ar345 : ∀ {n0 : Nat}, 133 ≤ n0 → 9 ≤ n0 := by intro n0 h1; exact Nat.le_of_add_left_le h1
theorem ar346 : ∀ {n0 : Nat}, min 12 n0 ≤ 12 := by intro n0 ; exact Nat.min_le_left _ _
theorem ar347 : ∀ {n0 : Nat}, n0 = 4 → n0 ≤ 8 := by intros; lia
theorem ar348 : ∀ {n0 n1 n2 : Nat}, n1 ≤ 12 → n2 = n1 + 15 → n0 ≤ n2 → n0 ≤ 400 := by intro n0 n1 n2 h1 h2 h3; exact Nat.le_trans h3 (Nat.le_trans (Nat.le_of_eq h2) (Nat.le_trans (Nat.add_le_add_right h1 15) (by decide)))
theorem ar349 : ∀ {n0 n1 n2 : Nat}, n1 ≤ 12 → n2 = n1 + 15 → n0 ≤ n2 → n0 ≤ 100000 := by intros; lia
theorem ar350 : ∀ {n0 : Nat}, n0 = 4 → n0 ≤ 1000 := by intros; lia
theorem ar351 : ∀ {n0 n1 n2 n3 : Nat}, n1 ≤ 12 → n2 = n1 + 15 → n0 ≤ n3 → n3 ≤ n2 → n0 ≤ 1000 := by intro n0 n1 n2 n3 h1 h2 h3 h4; exact Nat.le_trans h3 (Nat.le_trans h4 (Nat.le_trans (Nat.le_of_eq h2) (Nat.le_trans (Nat.add_le_add_right h1 15) (by decide))))
theorem ar352 : ∀ {n0 : Nat}, ¬(↑63 : Int) < (↑n0 : Int) → n0 ≤ 1000 := by intros; omega
theorem ar353 : ∀ {n0 n1 : Nat}, n0 + 64 < n1 → n0 + min (0 + 1) (0 + 1) < n1 := by intro n0 n1 h1; exact Nat.lt_of_le_of_lt (Nat.add_le_add_left (by decide) n0) h1
theorem ar354 : ∀ {n0 n1 : Nat}, n0 + 64 < n1 → n0 < n1 := by intro n0 n1 h1; exact Nat.lt_of_add_right_lt h1
theorem ar355 : ∀ {n0 n1 : Nat}, ¬n0 = n1 → (↑n0 : Int) ≠ (↑n1 : Int) := by intro n0 n1 h1; exact Nat.ToInt.of_diseq rfl rfl h1
theorem ar356 : ∀ {n0 n1 : Nat}, n1 < 64 → n0 = n1 → n0 ≤ 100000 := by intros; lia
theorem ar357 : ∀ {z0 z1 : Int} {n0 n1 : Nat}, n0 < n1 → z0 = 256 + (↑n0 : Int) → z1 = 256 + (↑n1 : Int) → z0 ≠ z1 := by intros; lia
theorem ar358 : ∀ {n0 n1 n2 : Nat}, n0 ≤ n2 → n1 ≤ n2 → n0 + n1 ≤ n2 * 2 := by intro n0 n1 n2 h1 h2; rw [Nat.mul_two]; exact Nat.add_le_add h1 h2
theorem ar359 : ∀ {n0 : Nat}, 1 ≤ n0 + 10 := by intro n0 ; exact Nat.le_add_left 1 (n0 + 9)
theorem ar360 : ∀ {z0 : Int}, ¬z0 < 256 → ¬z0 < 256 + (↑0 : Int) := by intro z0 h1; exact Not.imp h1 fun a => a
theorem ar361 : ∀ {n0 : Nat}, n0 + 1 ≤ 10 → n0 ≤ 10 := by intro n0 h1; exact Nat.le_of_succ_le h1
theorem ar362 : ∀ {n0 : Nat}, n0 + 11 ≤ n0 + 1 + 10 := by intro n0 ; exact Nat.le_refl (n0 + 11)
theorem ar363 : ∀ {z0 z1 : Int}, ¬z1 < 256 → z0 = 256 + (↑(z1 - 256).toNat : Int) → z0 = z1 := by intro z0 z1 h1 h2; rw [h2, Int.toNat_of_nonneg (Int.sub_nonneg.mpr (Int.not_lt.mp h1)), Int.add_comm, Int.sub_add_cancel]
theorem ar364 : ∀ {n0 n1 n2 : Nat}, n0 ≤ n2 → n1 ≤ n2 → n2 ≤ 2 ^ 10 → n0 + n1 ≤ 100000 := by intro n0 n1 n2 h1 h2 h3; exact Nat.le_trans (Nat.add_le_add (Nat.le_trans h1 h3) (Nat.le_trans h2 h3)) (by decide)
theorem ar365 : ∀ {n0 n1 : Nat}, n1 ≤ n0 → n0 - n1 = 0 → n0 = n1 := by intro n0 n1 h1 h2; exact Nat.le_antisymm (Nat.sub_eq_zero_iff_le.mp h2) h1
theorem ar366 : ∀ {n0 n1 n2 : Nat}, n1 - n0 = n2 + 1 → n0 < n1 := by intro n0 n1 n2 h1; exact Nat.lt_of_sub_eq_succ h1
theorem ar367 : ∀ {n0 n1 : Nat}, n0 ≤ n1 → n1 - n0 = 0 → n0 = n1 := by intro n0 n1 h1 h2; exact Nat.le_antisymm h1 (Nat.sub_eq_zero_iff_le.mp h2)
theorem ar368 : ∀ {n0 n1 n2 : Nat}, n2 = n1 → n0 ≤ n2 → n2 ≤ n0 → n0 = n1 := by intros; lia
theorem ar369 : ∀ {n0 n1 n2 : Nat}, n2 = n1 → n0 ≤ n2 → n0 ≤ n1 := by intro n0 n1 n2 h1 h2; exact le_of_le_of_eq h2 h1
theorem ar370 : ∀ {n0 n1 n2 n3 : Nat}, n0 = n3 → n0 - n1 = n2 → n1 < n3 → n0 - (n1 + 1) < n2 := by intro n0 n1 n2 n3 h1 h2 h3; subst h1; subst h2; exact Nat.sub_lt_sub_left h3 (Nat.lt_succ_self _)
theorem ar371 : ∀ {n0 n1 n2 : Nat}, n1 = n2 → n0 < n2 → n0 + 1 ≤ n1 := by intro n0 n1 n2 h1 h2; exact le_of_le_of_eq h2 (id (Eq.symm h1))
theorem ar372 : ∀ {n0 n1 n2 : Nat}, n0 + 8 * n2 < n1 → n0 < n1 := by intro n0 n1 n2 h1; exact Nat.lt_of_add_right_lt h1
end Mq
set_option tactic.hygienic false
namespace Mq
open PySem PySem.Spec PySem.Calls PyProof.Rows PySem.W
/-- what stands still: a part of the heap -/
abbrev Fz := Addr → Option Obj
noncomputable def LeZ (Z Z' : Fz) : Prop := ∀ a o, Z a = some o → Z' a = some o
/-- a code's table: the one kind of thing that may grow -/
noncomputable def Tb (o : Obj) : Prop := o.cls = .none ∧ ∃ vs, o.data = .fields vs
/-- no table grows in what the contracts speak of; the three calls that make a code's table grow are walked apart -/
noncomputable def Tab3 (_ : Addr) : Prop := False
/-- what stood stands -/
noncomputable def Old (h h' : Heap) : Prop := ∀ b o, h.get? b = some o → h'.get? b = some o ∨ (Tab3 b ∧ ∃ vs more : Array Value, o = X.tableObj vs ∧ h'.get? b = some (X.tableObj (vs ++ more)))
noncomputable def Kp (h h' : Heap) : Prop := ∀ b o, h.get? b = some o → ¬ Tb o → h'.get? b = some o
theorem Tb.table (vs : Array Value) : Tb (X.tableObj vs) := ⟨rfl, _, rfl⟩
theorem Tb.cls {o : Obj} (h : o.cls ≠ .none) : ¬ Tb o := fun x => h x.1
theorem Tb.ty {o : Obj} {T : String} (h : o.cls = .type T) : ¬ Tb o := fun x => by have := x.1; rw [h] at this; cases this
theorem Tb.seq {o : Obj} {vs : Array Value} {n : Nat} (h : o.data = .seq vs n) : ¬ Tb o := fun ⟨_, vs, x⟩ => by rw [h] at x; cases x
theorem Tb.dict {o : Obj} {es : Array _} {n : Nat} (h : o.data = .dict es n) : ¬ Tb o := fun ⟨_, vs, x⟩ => by rw [h] at x; cases x
theorem Tb.cell {o : Obj} {v : Option Value} (h : o.data = .cell v) : ¬ Tb o := fun ⟨_, vs, x⟩ => by rw [h] at x; cases x
theorem Tb.func {o : Obj} {fd : FuncData} (h : o.data = .func fd) : ¬ Tb o := fun ⟨_, vs, x⟩ => by rw [h] at x; cases x
theorem Old.refl (h : Heap) : Old h h := fun _ _ e => .inl e
theorem Old.of {h h' : Heap} (k : ∀ b o, h.get? b = some o → h'.get? b = some o) : Old h h' := fun b o e => .inl (k b o e)
theorem Old.trans {h h₁ h₂ : Heap} (x : Old h h₁) (y : Old h₁ h₂) : Old h h₂ := fun b o e => by
  rcases x b o e with e₁ | ⟨t, vs, more, rfl, e₁⟩
  · exact y b o e₁
  · rcases y b _ e₁ with e₂ | ⟨_, vs', more', q, e₂⟩
    · exact .inr ⟨t, vs, more, rfl, e₂⟩
    · refine .inr ⟨t, vs, more ++ more', rfl, ?_⟩
      have : vs' = vs ++ more := by injection q with _ _ q _; injection q with q; exact q.symm
      rw [e₂, this, Array.append_assoc]
theorem Old.kp {h h' : Heap} (x : Old h h') : Kp h h' := fun b o e n => by
  rcases x b o e with e₁ | ⟨_, vs, _, rfl, _⟩
  · exact e₁
  · exact absurd (Tb.table vs) n
theorem Old.full {h h' : Heap} (x : Old h h') {b : Addr} {o : Obj} (e : h.get? b = some o) : h'.get? b = some o := by
  rcases x b o e with e₁ | ⟨t, _⟩
  · exact e₁
  · exact t.elim
theorem Old.none {h h' : Heap} (x : Old h h') {a : Addr} (e : h'.get? a = Option.none) : h.get? a = Option.none := by
  cases q : h.get? a with
  | none => rfl
  | some o => rcases x a o q with e₁ | ⟨_, _, _, _, e₁⟩ <;> (rw [e] at e₁; cases e₁)
noncomputable def InH (Z : Fz) (h : Heap) : Prop := ∀ a o, Z a = some o → h.get? a = some o ∧ ¬ Tb o
theorem InH.get {Z : Fz} {h : Heap} (x : InH Z h) {a : Addr} {o : Obj} (e : Z a = some o) : h.get? a = some o := (x a o e).1
theorem InH.nt {Z : Fz} {h : Heap} (x : InH Z h) {a : Addr} {o : Obj} (e : Z a = some o) : ¬ Tb o := (x a o e).2
theorem LeZ.refl (Z : Fz) : LeZ Z Z := fun _ _ e => e
theorem LeZ.trans {a b c : Fz} (x : LeZ a b) (y : LeZ b c) : LeZ a c := fun p o e => y p o (x p o e)
theorem InH.of_le {Z Z' : Fz} {h : Heap} (x : InH Z' h) (y : LeZ Z Z') : InH Z h := fun a o e => x a o (y a o e)
theorem InH.keeps {Z : Fz} {h h' : Heap} (x : InH Z h) (k : Kp h h') : InH Z h' := fun a o e => ⟨k a o (x a o e).1 (x a o e).2, (x a o e).2⟩
theorem InH.off {Z : Fz} {h : Heap} (x : InH Z h) {a : Addr} (e : h.get? a = none) : Z a = none := by
  cases q : Z a with
  | none => rfl
  | some o => rw [x.get q] at e; cases e
/-- plain values -/
inductive PV where
  | none
  | bool (b : Bool)
  | int (i : Int)
  | str (x : Str)
  | list (xs : List PV)
  | tup (xs : List PV)
  | range (n : Nat)
  | val (v : Value)
  | abs (P : Fz → Value → Prop)
mutual
inductive Rep (Z : Fz) : Value → PV → Prop
  | none : Rep Z Value.none PV.none
  | bool (b : Bool) : Rep Z (Value.bool b) (PV.bool b)
  | int (i : Int) (t : Tok) : Rep Z (Value.int i t) (PV.int i)
  | str (x : Str) (t : Tok) : Rep Z (Value.str x t) (PV.str x)
  | list {a : Addr} {o : Obj} {n : Nat} {vs : List Value} {xs : List PV} : Z a = some o → o.cls = .type "list" → o.dict = Option.none → o.data = .seq vs.toArray n → RepL Z vs xs → Rep Z (Value.ref a) (PV.list xs)
  | tup {a : Addr} {o : Obj} {n : Nat} {vs : List Value} {xs : List PV} : Z a = some o → o.cls = .type "tuple" → o.data = .seq vs.toArray n → RepL Z vs xs → Rep Z (Value.ref a) (PV.tup xs)
  | range {a : Addr} {n : Nat} {t u v : Tok} : Z a = some { cls := .type "range", dict := none, data := .fields #[.int 0 t, .int (n : Int) u, .int 1 v], slots := #[] } → Rep Z (Value.ref a) (PV.range n)
  | val (v : Value) : Rep Z v (PV.val v)
  | abs {P : Fz → Value → Prop} {Z₁ : Fz} {v : Value} : P Z₁ v → LeZ Z₁ Z → Rep Z v (PV.abs P)
inductive RepL (Z : Fz) : List Value → List PV → Prop
  | nil : RepL Z [] []
  | cons {v : Value} {vs : List Value} {d : PV} {ds : List PV} : Rep Z v d → RepL Z vs ds → RepL Z (v :: vs) (d :: ds)
end
theorem Rep.mono {Z Z' : Fz} (hs : LeZ Z Z') {v : Value} {d : PV} (x : Rep Z v d) : Rep Z' v d :=
  Rep.rec (motive_1 := fun v d _ => Rep Z' v d) (motive_2 := fun vs ds _ => RepL Z' vs ds) .none .bool .int .str (fun h c n d _ r => .list (hs _ _ h) c n d r) (fun h c d _ r => .tup (hs _ _ h) c d r) (fun h => .range (hs _ _ h)) .val (fun h l => .abs h (l.trans hs)) .nil (fun _ _ a b => .cons a b) x
/-- steps along two lists -/
theorem RepL.ind {Z : Fz} {motive : List Value → List PV → Prop} (nil : motive [] []) (cons : ∀ {v vs d ds}, Rep Z v d → RepL Z vs ds → motive vs ds → motive (v :: vs) (d :: ds)) {vs : List Value} {ds : List PV} (x : RepL Z vs ds) : motive vs ds :=
  RepL.rec (motive_1 := fun _ _ _ => True) (motive_2 := fun vs ds _ => motive vs ds) trivial (fun _ => trivial) (fun _ _ => trivial) (fun _ _ => trivial) (fun _ _ _ _ _ _ => trivial) (fun _ _ _ _ _ => trivial) (fun _ => trivial) (fun _ => trivial) (fun _ _ => trivial) nil (fun h r _ ih => cons h r ih) x
theorem RepL.mono {Z Z' : Fz} (hs : LeZ Z Z') {vs : List Value} {ds : List PV} (x : RepL Z vs ds) : RepL Z' vs ds := x.ind .nil fun h _ ih => .cons (h.mono hs) ih
section
variable {Z : Fz} {v : Value} {vs ws : List Value} {d : PV} {ds es : List PV}
theorem RepL.length {vs : List Value} {ds : List PV} (x : RepL Z vs ds) : vs.length = ds.length := x.ind (motive := fun vs ds => vs.length = ds.length) rfl fun _ _ ih => congrArg (· + 1) ih
theorem RepL.append {vs : List Value} {ds : List PV} (x : RepL Z vs ds) (k : RepL Z ws es) : RepL Z (vs ++ ws) (ds ++ es) := x.ind (motive := fun vs ds => RepL Z (vs ++ ws) (ds ++ es)) k fun h _ ih => .cons h ih
theorem RepL.get {vs : List Value} {ds : List PV} (x : RepL Z vs ds) : ∀ {i : Nat} {v : Value}, vs[i]? = some v → ∃ d, ds[i]? = some d ∧ Rep Z v d :=
  x.ind (motive := fun vs ds => ∀ {i : Nat} {v : Value}, vs[i]? = some v → ∃ d, ds[i]? = some d ∧ Rep Z v d) (fun e => nomatch (List.getElem?_nil.symm.trans e)) fun h _ ih i v e => by
    cases i with
    | zero => cases Option.some.inj e; exact ⟨_, rfl, h⟩
    | succ i => exact ih e
theorem RepL.get' {vs : List Value} {ds : List PV} (x : RepL Z vs ds) : ∀ {i : Nat} {d : PV}, ds[i]? = some d → ∃ v, vs[i]? = some v ∧ Rep Z v d :=
  x.ind (motive := fun vs ds => ∀ {i : Nat} {d : PV}, ds[i]? = some d → ∃ v, vs[i]? = some v ∧ Rep Z v d) (fun e => nomatch (List.getElem?_nil.symm.trans e)) fun h _ ih i v e => by
    cases i with
    | zero => cases Option.some.inj e; exact ⟨_, rfl, h⟩
    | succ i => exact ih e
theorem RepL.of_get : ∀ {vs : List Value} {ds : List PV}, vs.length = ds.length → (∀ (i : Nat) v d, vs[i]? = some v → ds[i]? = some d → Rep Z v d) → RepL Z vs ds := by
  intro vs
  induction vs with
  | nil => intro ds h _; cases ds with
    | nil => exact .nil
    | cons d ds => cases h
  | cons v vs ih => intro ds h k; cases ds with
    | nil => cases h
    | cons d ds => exact .cons (k 0 v d rfl rfl) (ih (Nat.succ.inj h) fun i v' d' a b => k (i + 1) v' d' a b)
theorem RepL.cons_inv {vs : List Value} (h : RepL Z vs (d :: ds)) : ∃ v ws, vs = v :: ws ∧ Rep Z v d ∧ RepL Z ws ds := by
  cases h with
  | cons h r => exact ⟨_, _, rfl, h, r⟩
theorem RepL.nil_inv {vs : List Value} (h : RepL Z vs []) : vs = [] := by
  cases h; rfl
theorem RepL.one_inv {vs : List Value} (h : RepL Z vs [d]) : ∃ v, vs = [v] ∧ Rep Z v d := by
  obtain ⟨v, ws, e, h1, h2⟩ := h.cons_inv
  exact ⟨v, by rw [e, h2.nil_inv], h1⟩
theorem RepL.two_inv {d' : PV} {vs : List Value} (h : RepL Z vs [d, d']) : ∃ v v', vs = [v, v'] ∧ Rep Z v d ∧ Rep Z v' d' := by
  obtain ⟨v, ws, e, h1, h2⟩ := h.cons_inv
  obtain ⟨v', e', h3⟩ := h2.one_inv
  exact ⟨v, v', by rw [e, e'], h1, h3⟩
theorem RepL.one (h : Rep Z v d) : RepL Z [v] [d] := .cons h .nil
theorem RepL.rev {vs : List Value} {ds : List PV} (x : RepL Z vs ds) : RepL Z vs.reverse ds.reverse :=
  x.ind (motive := fun vs ds => RepL Z vs.reverse ds.reverse) .nil fun h _ ih => by rw [List.reverse_cons, List.reverse_cons]; exact ih.append (.one h)
theorem RepL.drop (k : Nat) {vs : List Value} {ds : List PV} (x : RepL Z vs ds) : RepL Z (vs.drop k) (ds.drop k) := by
  induction k generalizing vs ds with
  | zero => exact x
  | succ k ih => cases x with
    | nil => exact .nil
    | cons _ r => exact ih r
theorem RepL.take (k : Nat) {vs : List Value} {ds : List PV} (x : RepL Z vs ds) : RepL Z (vs.take k) (ds.take k) := by
  induction k generalizing vs ds with
  | zero => exact .nil
  | succ k ih => cases x with
    | nil => exact .nil
    | cons h r => exact .cons h (ih r)
end
/-- ints -/
noncomputable def pInts (ns : List Int) : List PV := ns.map PV.int
theorem Rep.isInt {Z : Fz} {v : Value} {i : Int} (r : Rep Z v (.int i)) : ∃ t, v = .int i t := by cases r; exact ⟨_, rfl⟩
theorem RepL.toInts {Z : Fz} : ∀ {ns : List Int} {vs : List Value}, RepL Z vs (pInts ns) → IntsAre vs ns
  | [], vs, h => by rw [RepL.nil_inv h]; exact .nil
  | n :: ns, vs, h => by
    obtain ⟨v, ws, e, h1, h2⟩ := RepL.cons_inv (d := .int n) (ds := pInts ns) h
    obtain ⟨t, e'⟩ := h1.isInt
    rw [e, e']
    exact .cons n t (RepL.toInts h2)
theorem RepL.ofInts {Z : Fz} {vs : List Value} {ns : List Int} (x : IntsAre vs ns) : RepL Z vs (pInts ns) := by
  induction x with
  | nil => exact .nil
  | cons n t _ ih => exact .cons (.int n t) ih
theorem RepL.scalars {Z Z' : Fz} : ∀ {vs : List Value} {ns : List Int}, RepL Z vs (Mq.pInts ns) → RepL Z' vs (Mq.pInts ns) := fun h => .ofInts h.toInts
/-- room on the stack -/
structure Room (A : Around) (k : Nat) : Prop where
  handled : A.handled = none
  guards : A.guards = some []
  depth : A.depth + k < recursionLimit
  units : A.units + 8 * k < cLine
theorem Room.le {A : Around} {k k' : Nat} (h : Room A k) (hk : k' ≤ k) : Room A k' := ⟨h.1, h.2, by have := h.3; (first | exact ar1 hk this | (first | lia | omega)), by have := h.4; (first | exact ar2 hk this | (first | lia | omega))⟩
theorem Room.deeper {A : Around} {k : Nat} (h : Room A (k + 1)) (env : Env) : Room (A.deeper env) k :=
  ⟨h.1, h.2, by have := h.3; show A.depth + 1 + k < _; (first | exact ar3 this | (first | lia | omega)), by have := h.4; show A.units + 3 + 8 * k < _; (first | exact ar4 this | (first | lia | omega))⟩
theorem Room.in1 {A : Around} {k : Nat} (h : Room A (k + 1)) : Room A.in1 k :=
  ⟨h.1, h.2, by have := h.3; show A.depth + k < _; (first | exact ar5 this | (first | lia | omega)), by have := h.4; show A.units + 1 + 8 * k < _; (first | exact ar6 this | (first | lia | omega))⟩
/-- a value is reckoned: all that stood stands, new things stand still -/
structure Ext (s : Shared) (Z : Fz) (s' : Shared) (Z' : Fz) : Prop where
  same : ∃ h' tk, s' = { s with heap := h', toks := tk }
  old : Old s.heap s'.heap
  le : LeZ Z Z'
  fin : InH Z' s'.heap
  fresh : ∀ a o, Z' a = some o → Z a = none → s.heap.get? a = none
theorem Ext.keep {s : Shared} {Z : Fz} {s' : Shared} {Z' : Fz} (x : Ext s Z s' Z') : Kp s.heap s'.heap := x.old.kp
theorem Ext.refl {s : Shared} {Z : Fz} (h : InH Z s.heap) : Ext s Z s Z := ⟨⟨_, _, rfl⟩, .refl _, .refl _, h, fun _ _ e e' => by rw [e] at e'; cases e'⟩
theorem Ext.trans {s s₁ s₂ : Shared} {Z Z₁ Z₂ : Fz} (x : Ext s Z s₁ Z₁) (y : Ext s₁ Z₁ s₂ Z₂) : Ext s Z s₂ Z₂ := by
  refine ⟨?_, x.old.trans y.old, x.le.trans y.le, y.fin, fun a o e e' => ?_⟩
  · obtain ⟨h, t, rfl⟩ := x.same; obtain ⟨h', t', rfl⟩ := y.same; exact ⟨_, _, rfl⟩
  · cases q : Z₁ a with
    | none => exact x.old.none (y.fresh a o e q)
    | some o' => exact x.fresh a o' q e'
/-- only tokens turn -/
theorem Ext.toks {s : Shared} {Z : Fz} {t : Nat} (h : InH Z s.heap) : Ext s Z { s with toks := t } Z := ⟨⟨_, _, rfl⟩, .refl _, .refl _, h, fun _ _ e e' => by rw [e] at e'; cases e'⟩
/-- a heap that keeps all, nothing new said -/
theorem Ext.keeps {s : Shared} {Z : Fz} {h' : Heap} {t : Nat} (h : InH Z s.heap) (k : ∀ b o, s.heap.get? b = some o → h'.get? b = some o) : Ext s Z { s with heap := h', toks := t } Z :=
  ⟨⟨_, _, rfl⟩, .of k, .refl _, h.keeps (Old.of k).kp, fun _ _ e e' => by rw [e] at e'; cases e'⟩
/-- one thing more that stands still -/
noncomputable def Fz.add (Z : Fz) (a : Addr) (o : Obj) : Fz := fun b => if b = a then some o else Z b
theorem Fz.add_self (Z : Fz) (a : Addr) (o : Obj) : Z.add a o a = some o := by simp [Fz.add]
theorem Fz.le_add {Z : Fz} {a : Addr} {o : Obj} (h : Z a = none) : LeZ Z (Z.add a o) := fun b x e => by
  unfold Fz.add
  split
  · rename_i q; subst q; rw [h] at e; cases e
  · exact e
theorem Fz.add_cases {Z : Fz} {a b : Addr} {o x : Obj} (e : Z.add a o b = some x) : (b = a ∧ x = o) ∨ Z b = some x := by
  unfold Fz.add at e
  split at e
  · rename_i q; cases e; exact .inl ⟨q, rfl⟩
  · exact .inr e
theorem InH.add {Z : Fz} {h : Heap} {a : Addr} {o : Obj} (x : InH Z h) (ho : h.get? a = some o) (nt : ¬ Tb o) : InH (Z.add a o) h := fun b y e => by
  rcases Fz.add_cases e with ⟨rfl, rfl⟩ | e
  · exact ⟨ho, nt⟩
  · exact x b y e
theorem Ext.add {s : Shared} {Z : Fz} {h' : Heap} {t : Nat} {a : Addr} {o : Obj} (h : InH Z s.heap) (k : ∀ b o, s.heap.get? b = some o → h'.get? b = some o) (ha : s.heap.get? a = none) (ho : h'.get? a = some o) (nt : ¬ Tb o) :
    Ext s Z { s with heap := h', toks := t } (Z.add a o) := by
  refine ⟨⟨_, _, rfl⟩, .of k, Fz.le_add (h.off ha), (h.keeps (Old.of k).kp).add ho nt, fun b x e e' => ?_⟩
  rcases Fz.add_cases e with ⟨rfl, rfl⟩ | e
  · exact ha
  · rw [e'] at e; cases e
theorem get?_size (h : Heap) : h.get? h.objs.size = none := by
  cases q : h.get? h.objs.size with
  | none => rfl
  | some o => exact absurd (Heap.lt_size q) (Nat.lt_irrefl _)
theorem Ext.push {s : Shared} {Z : Fz} {o : Obj} (h : InH Z s.heap) (nt : ¬ Tb o := by exact fun x => nomatch x.1) (hf : o.isFreed = false := by rfl) (t : Nat := s.toks) : Ext s Z { s with heap := s.heap.push o, toks := t } (Z.add s.heap.objs.size o) :=
  .add h (fun _ _ e => Heap.get?_push_of_some _ e) (get?_size _) (Heap.get?_push_size _ hf) nt
end Mq
set_option tactic.hygienic false
namespace Mq
open PySem PySem.Spec PySem.Calls PyProof.Rows PySem.W
/-- what a name of the frame holds: a thing that stands still, a list of ints or things that this frame alone writes, a dict of ints likewise -/
inductive Slot where
  | fz (d : PV)
  | own (xs : List PV)
  | ownD (ks : List Int) (ds : List PV)
abbrev PEnv := List (Str × Slot)
noncomputable def Slot.isOwn : Slot → Bool
  | .own _ => true
  | _ => false
noncomputable def Slot.isOwnD : Slot → Bool
  | .ownD _ _ => true
  | _ => false
noncomputable def listObj (vs : List Value) (n : Nat) : Obj := { cls := .type "list", data := .seq vs.toArray n }
theorem listObj_isList {h : Heap} {a : Addr} {vs : List Value} {n : Nat} (e : h.get? a = some (listObj vs n)) : h.IsList a vs.toArray := ⟨_, e, rfl, n, rfl⟩
noncomputable def Holds (h : Heap) (env : Env) (x : Str) (v : Value) : Prop :=
  (env.kindOf x = some .local ∧ ∃ m, h.Ns env.locals m ∧ m x = some v) ∨
  ((env.kindOf x = some .cell ∨ env.kindOf x = some .free) ∧ ∃ c, env.cells.lookup x = some c ∧ h.IsCell c (some v))
theorem Ns_keeps {h h' : Heap} {a : Addr} {m : Str → Option Value} (k : Kp h h') : h.Ns a m → h'.Ns a m
  | ⟨o, es, ep, ho, hd, r⟩ => ⟨o, es, ep, k _ _ ho (Tb.dict hd), hd, r⟩
theorem IsCell_keeps {h h' : Heap} {a : Addr} {v : Option Value} (k : Kp h h') : h.IsCell a v → h'.IsCell a v
  | ⟨o, ho, hd⟩ => ⟨o, k _ _ ho (Tb.cell hd), hd⟩
theorem Holds.keeps {h h' : Heap} {env : Env} {x : Str} {v : Value} (k : Kp h h') : Holds h env x v → Holds h' env x v
  | .inl ⟨a, m, n, e⟩ => .inl ⟨a, m, Ns_keeps k n, e⟩
  | .inr ⟨a, c, l, e⟩ => .inr ⟨a, c, l, IsCell_keeps k e⟩
/-- an exact dict with int keys -/
noncomputable def IDict (o : Obj) (kvs : List (Int × Value)) : Prop :=
  ∃ es ep, o.ExactDict ∧ o.data = .dict es ep ∧ ∀ prog w, KeysOf (intKind prog w) es ∧ Pairs (intKind prog w) es.toList kvs ∧ (kvs.map (·.1)).Nodup
theorem IDict.dictOf {prog : Program} {w : World} {h : Heap} {a : Addr} {o : Obj} {kvs : List (Int × Value)} (x : IDict o kvs) (e : h.get? a = some o) : h.DictOf (intKind prog w) a kvs :=
  let ⟨es, ep, h1, h2, h3⟩ := x; ⟨o, es, ep, e, h1, h2, h3 prog w⟩
theorem pairs_any {prog prog' : Program} {w w' : World} {es : List DictEntry} {kvs : List (Int × Value)} (h : Pairs (intKind prog w) es kvs) : Pairs (intKind prog' w') es kvs := by
  induction h with
  | nil => exact .nil
  | cons a b _ ih => exact .cons a b ih
theorem IDict.of {prog : Program} {w : World} {h : Heap} {a : Addr} {kvs : List (Int × Value)} (x : h.DictOf (intKind prog w) a kvs) : ∃ o, h.get? a = some o ∧ IDict o kvs :=
  let ⟨o, es, ep, h0, h1, h2, h3, h4, h5⟩ := x; ⟨o, h0, es, ep, h1, h2, fun _ _ => ⟨h3, pairs_any h4, h5⟩⟩
theorem IDict.nt {o : Obj} {kvs : List (Int × Value)} (x : IDict o kvs) : ¬ Tb o := let ⟨es, ep, h1, h2, h3⟩ := x; Tb.dict h2
noncomputable def SlotIs (S Z : Fz) (h : Heap) (L : Addr) (v : Value) : Slot → Prop
  | .fz d => Rep Z v d
  | .own xs => ∃ a vs n, v = .ref a ∧ h.get? a = some (listObj vs n) ∧ RepL Z vs xs ∧ Z a = none ∧ S a = none
  | .ownD ks ds => ∃ a o vs, v = .ref a ∧ h.get? a = some o ∧ IDict o (ks.zip vs) ∧ vs.length = ks.length ∧ RepL Z vs ds ∧ Z a = none ∧ S a = none ∧ a ≠ L
structure Pre (Z0 S Z : Fz) (env : Env) (ρ : PEnv) (s : Shared) : Prop where
  base : LeZ Z0 Z
  fin : InH Z s.heap
  snap : InH S s.heap
  kind : env.scope.kind = .function
  gl : env.globals = mainGlobals
  bl : env.builtins = builtinsNs
  ns : ∃ m, s.heap.Ns env.locals m
  vars : ∀ x sl, ρ.lookup x = some sl → ∃ v, Holds s.heap env x v ∧ SlotIs S Z s.heap env.locals v sl
section
variable {Z0 S Z Z' : Fz} {env : Env} {ρ : PEnv} {s s' : Shared}
theorem Ext.off (e : Ext s Z s' Z') {a : Addr} {o : Obj} (ho : s.heap.get? a = some o) (hz : Z a = none) : Z' a = none := by
  cases q : Z' a with
  | none => rfl
  | some o' => rw [e.fresh a o' q hz] at ho; cases ho
/-- a slot's value in another heap -/
theorem SlotIs.gen {S Z Z' : Fz} {L : Addr} {h h' : Heap} {v : Value} (le : LeZ Z Z') (k : ∀ a o, h.get? a = some o → ¬ Tb o → ((∃ vs n, o.data = .seq vs n) ∨ (a ≠ L ∧ ∃ es n, o.data = .dict es n)) → h'.get? a = some o) (off : ∀ a o, h.get? a = some o → Z a = none → Z' a = none) {sl : Slot} (x : SlotIs S Z h L v sl) : SlotIs S Z' h' L v sl := by
  cases sl with
  | fz d => exact Rep.mono le x
  | own xs =>
    obtain ⟨a, vs, n, h1, h2, h3, h4, h5⟩ := x
    exact ⟨a, vs, n, h1, k _ _ h2 (Tb.seq rfl) (.inl ⟨_, _, rfl⟩), h3.mono le, off _ _ h2 h4, h5⟩
  | ownD ks ds =>
    obtain ⟨a, o, vs, h1, h2, h3, h4, h5, h6, h7, h8⟩ := x
    exact ⟨a, o, vs, h1, k _ _ h2 h3.nt (.inr ⟨h8, let ⟨es, ep, _, hd, _⟩ := h3; ⟨es, ep, hd⟩⟩), h3, h4, h5.mono le, off _ _ h2 h6, h7, h8⟩
theorem SlotIs.ext (e : Ext s Z s' Z') {v : Value} {sl : Slot} (x : SlotIs S Z s.heap env.locals v sl) : SlotIs S Z' s'.heap env.locals v sl := x.gen e.le (fun _ _ h n _ => e.keep _ _ h n) (fun _ _ h => e.off h)
theorem Pre.ext (p : Pre Z0 S Z env ρ s) (e : Ext s Z s' Z') : Pre Z0 S Z' env ρ s' := by
  refine ⟨p.base.trans e.le, e.fin, p.snap.keeps e.keep, p.kind, p.gl, p.bl, let ⟨m, h⟩ := p.ns; ⟨m, Ns_keeps e.keep h⟩, fun x sl hx => ?_⟩
  obtain ⟨v, h1, h2⟩ := p.vars x sl hx
  exact ⟨v, h1.keeps e.keep, h2.ext e⟩
theorem Pre.weaken {ρ' : PEnv} (p : Pre Z0 S Z env ρ s) (h : ∀ x sl, ρ'.lookup x = some sl → ρ.lookup x = some sl) : Pre Z0 S Z env ρ' s :=
  ⟨p.base, p.fin, p.snap, p.kind, p.gl, p.bl, p.ns, fun x sl hx => p.vars x sl (h x sl hx)⟩
end
variable {prog : Program} {w : World}
/-- what a reckoning ends in -/
inductive Post (s : Shared) (Z : Fz) (d : PV) (v : Value) (s' : Shared) : Prop
  | mk (Z' : Fz) (_ : Ext s Z s' Z') (_ : Rep Z' v d) : Post s Z d v s'
inductive PostL (s : Shared) (Z : Fz) (ds : List PV) (vs : List Value) (s' : Shared) : Prop
  | mk (Z' : Fz) (_ : Ext s Z s' Z') (_ : RepL Z' vs ds) : PostL s Z ds vs s'
inductive PostB (s : Shared) (Z : Fz) (b : Bool) (r : Bool) (s' : Shared) : Prop
  | mk (_ : r = b) (Z' : Fz) (_ : Ext s Z s' Z') : PostB s Z b r s'
/-- an expression's value -/
noncomputable def Ev (prog : Program) (w : World) (Z0 : Fz) (k : Nat) (env : Env) (ρ : PEnv) (e : Expr) (d : PV) : Prop :=
  ∀ (S Z : Fz) (s : Shared) (A : Around) (E : Value → Shared → Prop), Room A k → Pre Z0 S Z env ρ s → wpAny (model prog w) A (eval e env) (Post s Z d) E s
/-- a test's answer -/
noncomputable def Tr (prog : Program) (w : World) (Z0 : Fz) (k : Nat) (env : Env) (ρ : PEnv) (e : Expr) (b : Bool) : Prop :=
  ∀ (S Z : Fz) (s : Shared) (A : Around) (E : Value → Shared → Prop), Room A k → Pre Z0 S Z env ρ s → wpAny (model prog w) A (isTrue e env (eval e env)) (PostB s Z b) E s
/-- items in a row -/
structure Evs (prog : Program) (w : World) (Z0 : Fz) (k : Nat) (env : Env) (ρ : PEnv) (es : List Expr) (ds : List PV) : Prop where
  run : ∀ (S Z : Fz) (s : Shared) (A : Around) (E : Value → Shared → Prop) (pos : Pos), Room A k → Pre Z0 S Z env ρ s → wpAny (model prog w) A (spliced (backTo pos (starEach es env))) (PostL s Z ds) E s
/-- an operation upon values -/
noncomputable def Op (prog : Program) (w : World) (Z0 : Fz) (k : Nat) (Z : Fz) (t : Sem Value) (d : PV) : Prop :=
  ∀ (s : Shared) (A : Around) (E : Value → Shared → Prop), Room A k → InH Z s.heap → wpAny (model prog w) A t (Post s Z d) E s
section
variable {Z0 : Fz} {k : Nat} {env : Env} {ρ : PEnv}
theorem Post.ext {s s₁ s₂ : Shared} {Z Z₁ : Fz} {d : PV} {v : Value} (e : Ext s Z s₁ Z₁) : Post s₁ Z₁ d v s₂ → Post s Z d v s₂
  | ⟨Z₂, e', r⟩ => ⟨Z₂, e.trans e', r⟩
theorem PostB.ext {s s₁ s₂ : Shared} {Z Z₁ : Fz} {b r : Bool} (e : Ext s Z s₁ Z₁) : PostB s₁ Z₁ b r s₂ → PostB s Z b r s₂
  | ⟨h, Z₂, e'⟩ => ⟨h, Z₂, e.trans e'⟩
theorem Ev.le {e : Expr} {d : PV} {k' : Nat} (h : Ev prog w Z0 k env ρ e d) (hk : k ≤ k') : Ev prog w Z0 k' env ρ e d := fun S Z s A E r p => h S Z s A E (r.le hk) p
theorem Evs.nil : Evs prog w Z0 k env ρ [] [] := ⟨fun S Z s A E pos r p => wpAny_items_nil ⟨Z, .refl p.fin, .nil⟩⟩
theorem Evs.cons {e : Expr} {es : List Expr} {d : PV} {ds : List PV} (h : Ev prog w Z0 k env ρ e d) (t : Evs prog w Z0 k env ρ es ds) (he : starEach (e :: es) env = (false, eval e env) :: starEach es env := by rfl) :
    Evs prog w Z0 k env ρ (e :: es) (d :: ds) := ⟨fun S Z s A E pos r p =>
  wpAny_items_cons (wpAny_mono (h S Z s A E r p) (fun v s₁ h₁ => by
    obtain ⟨Z₁, e₁, r₁⟩ := h₁
    refine wpAny_mono (t.run S Z₁ s₁ A E pos r (p.ext e₁)) (fun vs s₂ h₂ => ?_) fun _ _ x => x
    obtain ⟨Z₂, e₂, r₂⟩ := h₂
    exact ⟨Z₂, e₁.trans e₂, .cons (r₁.mono e₂.le) r₂⟩) fun _ _ x => x) he⟩
theorem Ev.name {x : Str} {pos : Pos} {d : PV} (hx : ρ.lookup x = some (.fz d)) (hd : (x == ("__debug__" : Str)) = false := by decide) (hn : (x == ("__classdict__" : Str)) = false := by decide) :
    Ev prog w Z0 k env ρ (.Name x pos) d := fun S Z s A E r p => by
  obtain ⟨v, h1, h2⟩ := p.vars x _ hx
  refine wpAny_Name ?_ hd
  rcases h1 with ⟨hk, m, hm, hv⟩ | ⟨hk | hk, c, hc, hv⟩
  · exact wpAny_loadName_local p.kind hk hm hv ⟨Z, .refl p.fin, h2⟩
  · exact wpAny_loadName_cell p.kind hk hc hv ⟨Z, .refl p.fin, h2⟩
  · exact wpAny_loadName_free p.kind hk hc hv ⟨Z, .refl p.fin, h2⟩ hn
theorem Ev.int {i : Int} {kk : Nat} {pos : Pos} : Ev prog w Z0 k env ρ (.Constant (.int i) kk pos) (.int i) := fun S Z s A E r p =>
  wpAny_Constant_int ⟨Z, .toks p.fin, .int _ _⟩
theorem Ev.bool {b : Bool} {kk : Nat} {pos : Pos} : Ev prog w Z0 k env ρ (.Constant (.bool b) kk pos) (.bool b) := fun S Z s A E r p =>
  wpAny_Constant_bool ⟨Z, .refl p.fin, .bool _⟩
theorem Ev.tuple {es : List Expr} {ds : List PV} {kk : Nat} {pos : Pos} (h : Evs prog w Z0 k env ρ es ds) (hz : ds.length ≤ 1000 := by first | decide | simp) : Ev prog w Z0 k env ρ (.Tuple es kk pos) (.tup ds) := fun S Z s A E r p =>
  wpAny_Tuple (wpAny_mono (h.run S Z s A E pos r p) (fun vs s₁ h₁ => by
    obtain ⟨Z₁, e₁, r₁⟩ := h₁
    refine ⟨by rw [sizeLine_eq, r₁.length]; (first | exact ar7 hz | (first | lia | omega)), _, e₁.trans (.push (t := s₁.toks) e₁.fin), ?_⟩
    exact .tup (Fz.add_self ..) rfl rfl (r₁.mono (Ext.push (t := s₁.toks) e₁.fin (o := { cls := .type "tuple", data := .seq vs.toArray })).le)) fun _ _ x => x)
theorem Ev.list {es : List Expr} {ds : List PV} {pos : Pos} (h : Evs prog w Z0 k env ρ es ds) (hz : ds.length ≤ 1000 := by first | decide | simp) : Ev prog w Z0 k env ρ (.List es pos) (.list ds) := fun S Z s A E r p =>
  wpAny_List (wpAny_mono (h.run S Z s A E pos r p) (fun vs s₁ h₁ => by
    obtain ⟨Z₁, e₁, r₁⟩ := h₁
    refine ⟨by rw [sizeLine_eq, r₁.length]; (first | exact ar7 hz | (first | lia | omega)), _, e₁.trans (.push (t := s₁.toks) e₁.fin), ?_⟩
    exact .list (Fz.add_self ..) rfl rfl rfl (r₁.mono (Ext.push (t := s₁.toks) e₁.fin (o := { cls := .type "list", data := .seq vs.toArray })).le)) fun _ _ x => x)
theorem Ev.binop {l r : Expr} {op : Operator} {pos : Pos} {a b d : PV} (hl : Ev prog w Z0 k env ρ l a) (hr : Ev prog w Z0 k env ρ r b)
    (ho : ∀ Z v u, LeZ Z0 Z → Rep Z v a → Rep Z u b → Op prog w Z0 k Z (binaryOp op v u) d) : Ev prog w Z0 k env ρ (.BinOp l op r pos) d := fun S Z s A E rm p =>
  wpAny_BinOp (wpAny_mono (hl S Z s A E rm p) (fun v s₁ h₁ => by
    obtain ⟨Z₁, e₁, r₁⟩ := h₁
    have p₁ := p.ext e₁
    refine wpAny_mono (hr S Z₁ s₁ A E rm p₁) (fun u s₂ h₂ => ?_) fun _ _ x => x
    obtain ⟨Z₂, e₂, r₂⟩ := h₂
    have p₂ := p₁.ext e₂
    exact wpAny_mono (ho Z₂ v u p₂.base (r₁.mono e₂.le) r₂ s₂ A E rm p₂.fin) (fun _ _ q => q.ext (e₁.trans e₂)) fun _ _ x => x) fun _ _ x => x)
theorem Ev.cmp {l r : Expr} {op : CmpOp} {pos : Pos} {a b d : PV} (hl : Ev prog w Z0 k env ρ l a) (hr : Ev prog w Z0 k env ρ r b)
    (ho : ∀ Z v u, LeZ Z0 Z → Rep Z v a → Rep Z u b → Op prog w Z0 k Z (compareOp op v u) d) (hm : behindInMarks op r = false := by with_unfolding_all rfl) : Ev prog w Z0 k env ρ (.Compare l [op] [r] pos) d := fun S Z s A E rm p =>
  wpAny_Compare1 (wpAny_mono (hl S Z s A E rm p) (fun v s₁ h₁ => by
    obtain ⟨Z₁, e₁, r₁⟩ := h₁
    have p₁ := p.ext e₁
    refine wpAny_mono (hr S Z₁ s₁ A E rm p₁) (fun u s₂ h₂ => ?_) fun _ _ x => x
    obtain ⟨Z₂, e₂, r₂⟩ := h₂
    have p₂ := p₁.ext e₂
    exact wpAny_mono (ho Z₂ v u p₂.base (r₁.mono e₂.le) r₂ s₂ A E rm p₂.fin) (fun _ _ q => q.ext (e₁.trans e₂)) fun _ _ x => x) fun _ _ x => x) hm
theorem Tr.cmp {l r : Expr} {op : CmpOp} {pos : Pos} {a b : PV} {t : Bool} (hl : Ev prog w Z0 k env ρ l a) (hr : Ev prog w Z0 k env ρ r b)
    (ho : ∀ Z v u, LeZ Z0 Z → Rep Z v a → Rep Z u b → Op prog w Z0 k Z (compareOp op v u) (.bool t)) (hm : behindInMarks op r = false := by with_unfolding_all rfl) : Tr prog w Z0 k env ρ (.Compare l [op] [r] pos) t := fun S Z s A E rm p =>
  wpAny_isTrue_Compare1 (wpAny_mono (hl S Z s A E rm p) (fun v s₁ h₁ => by
    obtain ⟨Z₁, e₁, r₁⟩ := h₁
    have p₁ := p.ext e₁
    refine wpAny_mono (hr S Z₁ s₁ A E rm p₁) (fun u s₂ h₂ => ?_) fun _ _ x => x
    obtain ⟨Z₂, e₂, r₂⟩ := h₂
    have p₂ := p₁.ext e₂
    refine wpAny_mono (ho Z₂ v u p₂.base (r₁.mono e₂.le) r₂ s₂ A E rm p₂.fin) (fun c s₃ q => ?_) fun _ _ x => x
    obtain ⟨Z₃, e₃, r₃⟩ := q
    cases r₃
    exact wpAny_truthy_bool ⟨rfl, Z₃, (e₁.trans e₂).trans e₃⟩) fun _ _ x => x) hm
/-- and of two tests -/
theorem Tr.and2 {x y : Expr} {pos : Pos} {a b : Bool} (hx : Tr prog w Z0 k env ρ x a) (hy : a = true → Tr prog w Z0 k env ρ y b) : Tr prog w Z0 k env ρ (.BoolOp .And [x, y] pos) (a && b) := fun S Z s A E rm p =>
  wpAny_isTrue_BoolOp (wpAny_allTrue_And_cons (wpAny_mono (hx S Z s A E rm p) (fun r s₁ h₁ => by
    obtain ⟨rfl, Z₁, e₁⟩ := h₁
    cases r with
    | false => exact ⟨rfl, Z₁, e₁⟩
    | true =>
      refine wpAny_allTrue_And_cons (wpAny_mono (hy rfl S Z₁ s₁ A E rm (p.ext e₁)) (fun r₂ s₂ h₂ => ?_) fun _ _ x => x)
      obtain ⟨rfl, Z₂, e₂⟩ := h₂
      cases r₂ with
      | false => exact ⟨rfl, Z₂, e₁.trans e₂⟩
      | true => exact wpAny_allTrue_And_nil ⟨rfl, Z₂, e₁.trans e₂⟩) fun _ _ x => x))
theorem Ev.ifexp {t b o : Expr} {pos : Pos} {c : Bool} {d : PV} (ht : Tr prog w Z0 k env ρ t c) (hb : c = true → Ev prog w Z0 k env ρ b d) (ho : c = false → Ev prog w Z0 k env ρ o d) : Ev prog w Z0 k env ρ (.IfExp t b o pos) d := fun S Z s A E rm p =>
  wpAny_IfExp (wpAny_mono (ht S Z s A E rm p) (fun r s₁ h₁ => by
    obtain ⟨rfl, Z₁, e₁⟩ := h₁
    cases r with
    | true => exact wpAny_mono (hb rfl S Z₁ s₁ A E rm (p.ext e₁)) (fun _ _ q => q.ext e₁) fun _ _ x => x
    | false => exact wpAny_mono (ho rfl S Z₁ s₁ A E rm (p.ext e₁)) (fun _ _ q => q.ext e₁) fun _ _ x => x) fun _ _ x => x)
end
end Mq
set_option tactic.hygienic false
namespace Mq
open PySem PySem.Spec PySem.Calls PyProof.Rows PySem.W
section
variable {Z : Fz} {h : Heap} {v : Value} {xs : List PV}
theorem Rep.isList (r : Rep Z v (.list xs)) (hi : InH Z h) : ∃ a vs, v = .ref a ∧ h.IsList a vs.toArray ∧ RepL Z vs xs := by
  cases r with
  | list e c _ d r => exact ⟨_, _, rfl, ⟨_, hi.get e, c, _, d⟩, r⟩
theorem Rep.isTup (r : Rep Z v (.tup xs)) (hi : InH Z h) : ∃ a vs, v = .ref a ∧ IsTup h a vs.toArray ∧ RepL Z vs xs := by
  cases r with
  | tup e c d r => exact ⟨_, _, rfl, ⟨_, hi.get e, c, _, d⟩, r⟩
theorem Rep.isBool {b : Bool} (r : Rep Z v (.bool b)) : v = .bool b := by cases r; rfl
theorem Rep.isVal {u : Value} (r : Rep Z v (.val u)) : v = u := by cases r; rfl
theorem Rep.isStr {x : Str} (r : Rep Z v (.str x)) : ∃ t, v = .str x t := by cases r; exact ⟨_, rfl⟩
end
variable {prog : Program} {w : World} {Z0 : Fz} {k : Nat}
section ops
variable {Z : Fz} {v u : Value} {a b : Int} {xs ys : List PV}
theorem op_add (h1 : Rep Z v (.int a)) (h2 : Rep Z u (.int b)) : Op prog w Z0 k Z (binaryOp .Add v u) (.int (a + b)) := fun s A E r hi => by
  obtain ⟨t, rfl⟩ := h1.isInt; obtain ⟨t', rfl⟩ := h2.isInt
  exact PyProof.Rows.add_int ⟨Z, .toks hi, .int _ _⟩
theorem op_sub (h1 : Rep Z v (.int a)) (h2 : Rep Z u (.int b)) : Op prog w Z0 k Z (binaryOp .Sub v u) (.int (a - b)) := fun s A E r hi => by
  obtain ⟨t, rfl⟩ := h1.isInt; obtain ⟨t', rfl⟩ := h2.isInt
  exact PySem.P.sub_int ⟨Z, .toks hi, .int _ _⟩
theorem op_mod (h1 : Rep Z v (.int a)) (h2 : Rep Z u (.int b)) (hb : b ≠ 0) : Op prog w Z0 k Z (binaryOp .Mod v u) (.int (a.fmod b)) := fun s A E r hi => by
  obtain ⟨t, rfl⟩ := h1.isInt; obtain ⟨t', rfl⟩ := h2.isInt
  exact PyProof.Rows.mod_int hb ⟨Z, .toks hi, .int _ _⟩
theorem op_eq_int (h1 : Rep Z v (.int a)) (h2 : Rep Z u (.int b)) : Op prog w Z0 k Z (compareOp .Eq v u) (.bool (a == b)) := fun s A E r hi => by
  obtain ⟨t, rfl⟩ := h1.isInt; obtain ⟨t', rfl⟩ := h2.isInt
  exact PyProof.Rows.eq_int ⟨Z, .refl hi, .bool _⟩
theorem op_ne_int (h1 : Rep Z v (.int a)) (h2 : Rep Z u (.int b)) : Op prog w Z0 k Z (compareOp .NotEq v u) (.bool (a != b)) := fun s A E r hi => by
  obtain ⟨t, rfl⟩ := h1.isInt; obtain ⟨t', rfl⟩ := h2.isInt
  exact PyProof.Rows.ne_int ⟨Z, .refl hi, .bool _⟩
theorem op_lt_int (h1 : Rep Z v (.int a)) (h2 : Rep Z u (.int b)) : Op prog w Z0 k Z (compareOp .Lt v u) (.bool (decide (a < b))) := fun s A E r hi => by
  obtain ⟨t, rfl⟩ := h1.isInt; obtain ⟨t', rfl⟩ := h2.isInt
  exact PyProof.Rows.lt_int ⟨Z, .refl hi, .bool _⟩
theorem op_cat (h1 : Rep Z v (.list xs)) (h2 : Rep Z u (.list ys)) (hz : xs.length + ys.length ≤ 100000) : Op prog w Z0 k Z (binaryOp .Add v u) (.list (xs ++ ys)) := fun s A E r hi => by
  obtain ⟨l, vs, rfl, hl, r1⟩ := h1.isList hi
  obtain ⟨l', vs', rfl, hl', r2⟩ := h2.isList hi
  obtain ⟨⟨cls, dd, data, sl⟩, ho, hc, n, hd⟩ := id hl
  obtain ⟨⟨cls2, dd2, data2, sl2⟩, ho2, hc2, n2, hd2⟩ := id hl'
  simp only at hc hd hc2 hd2
  subst hc hd hc2 hd2
  refine concat_meets ⟨_, ho, rfl⟩ ⟨_, ho2, rfl⟩ noFill_list_add seq_list_add PySem.F.slot_list_add PySem.F.entry_list_add (PySem.F.args_list_add_2 _ _) (list_addW l l' vs.toArray vs'.toArray n n2 dd dd2 sl sl2 ?_) ⟨ho, ho2, ?_⟩
  · simp only [List.size_toArray, sizeLine_eq, r1.length, r2.length]; (first | exact ar8 hz | (first | lia | omega))
  · refine ⟨_, Ext.push (t := s.toks) hi, .list (Fz.add_self ..) rfl rfl (vs := vs ++ vs') (n := 0) (by simp) ((r1.append r2).mono (Ext.push (t := s.toks) hi (o := { cls := .type "list", data := .seq (vs.toArray ++ vs'.toArray) })).le)⟩
end ops
section items
variable {Z : Fz} {v u : Value} {xs : List PV} {d : PV} {value slice : Expr}
theorem op_item_list {i : Int} (h1 : Rep Z v (.list xs)) (h2 : Rep Z u (.int i)) (h0 : 0 ≤ i) (hx : xs[i.toNat]? = some d) (hz : xs.length ≤ 100000)
    (hs : ∀ o j, subscripted slice false (.ref o) j = operate [.ref o, j] (getItem (.ref o) j) := by intro _ _; with_unfolding_all rfl) : Op prog w Z0 k Z (subscriptTail value slice v u) d := fun s A E r hi => by
  obtain ⟨t, rfl⟩ := h2.isInt
  obtain ⟨l, vs, rfl, hl, r1⟩ := h1.isList hi
  obtain ⟨x, hv, rx⟩ := r1.get' hx
  have hlt : i.toNat < vs.length := (List.getElem?_eq_some_iff.mp hv).1
  have := r1.length
  exact tail_any hl.typeIs slot_list_getitem.lookup (wpAny_getItem_list hl h0 (by (first | exact ar9 hz hlt this | (first | lia | omega))) (by simpa using hv) ⟨Z, .refl hi, rx⟩) (hs _ _)
theorem op_item_list_neg {i : Int} (h1 : Rep Z v (.list xs)) (h2 : Rep Z u (.int i)) (h0 : i < 0) (h1' : -(xs.length : Int) ≤ i) (hx : xs[(i + xs.length).toNat]? = some d) (hz : xs.length ≤ 100000)
    (hs : ∀ o j, subscripted slice false (.ref o) j = operate [.ref o, j] (getItem (.ref o) j) := by intro _ _; with_unfolding_all rfl) : Op prog w Z0 k Z (subscriptTail value slice v u) d := fun s A E r hi => by
  obtain ⟨t, rfl⟩ := h2.isInt
  obtain ⟨l, vs, rfl, hl, r1⟩ := h1.isList hi
  obtain ⟨x, hv, rx⟩ := r1.get' hx
  have := r1.length
  exact tail_any hl.typeIs slot_list_getitem.lookup (wpAny_getItem_list_neg hl h0 (by simp only [List.size_toArray]; (first | exact ar10 h1' this | (first | lia | omega))) (by (first | exact ar11 h1' hz | (first | lia | omega))) (by simpa [this] using hv) ⟨Z, .refl hi, rx⟩) (hs _ _)
theorem op_item_tup {i : Int} (h1 : Rep Z v (.tup xs)) (h2 : Rep Z u (.int i)) (h0 : 0 ≤ i) (hx : xs[i.toNat]? = some d) (hz : xs.length ≤ 100000)
    (hs : ∀ o j, subscripted slice false (.ref o) j = operate [.ref o, j] (getItem (.ref o) j) := by intro _ _; with_unfolding_all rfl) : Op prog w Z0 k Z (subscriptTail value slice v u) d := fun s A E r hi => by
  obtain ⟨t, rfl⟩ := h2.isInt
  obtain ⟨l, vs, rfl, hl, r1⟩ := h1.isTup hi
  obtain ⟨x, hv, rx⟩ := r1.get' hx
  have hlt : i.toNat < vs.length := (List.getElem?_eq_some_iff.mp hv).1
  have := r1.length
  refine item_tupleT (j := i.toNat) hl (by (first | exact ar12 h0 | (first | lia | omega))) (by (first | exact ar9 hz hlt this | (first | lia | omega))) ?_ hv ⟨Z, .refl hi, rx⟩ (hs _ _)
  have : ¬ i < 0 := by (first | exact ar13 h0 | (first | lia | omega))
  have : i < (xs.length : Int) := by (first | exact ar14 hlt (by assumption) | (first | lia | omega))
  simp [seqIndex?, *]
end items
section
variable {env : Env} {ρ : PEnv}
theorem Ev.sub {value slice : Expr} {pos : Pos} {a b d : PV} (hl : Ev prog w Z0 k env ρ value a) (hr : Ev prog w Z0 k env ρ slice b)
    (ho : ∀ Z v u, LeZ Z0 Z → Rep Z v a → Rep Z u b → Op prog w Z0 k Z (subscriptTail value slice v u) d) : Ev prog w Z0 k env ρ (.Subscript value slice pos) d := fun S Z s A E rm p =>
  Subscript_ (wpAny_mono (hl S Z s A E rm p) (fun v s₁ h₁ => by
    obtain ⟨Z₁, e₁, r₁⟩ := h₁
    have p₁ := p.ext e₁
    refine wpAny_mono (hr S Z₁ s₁ A E rm p₁) (fun u s₂ h₂ => ?_) fun _ _ x => x
    obtain ⟨Z₂, e₂, r₂⟩ := h₂
    have p₂ := p₁.ext e₂
    exact wpAny_mono (ho Z₂ v u p₂.base (r₁.mono e₂.le) r₂ s₂ A E rm p₂.fin) (fun _ _ q => q.ext (e₁.trans e₂)) fun _ _ x => x) fun _ _ x => x)
end
end Mq
set_option tactic.hygienic false
namespace Mq
open PySem PySem.Spec PySem.Calls PyProof.Rows PySem.W
structure Base (Z0 : Fz) (mg mb : Str → Option Value) : Prop where
  g : ∀ h, InH Z0 h → h.Ns mainGlobals mg
  b : ∀ h, InH Z0 h → h.Ns builtinsNs mb
  lim : ∀ h, InH Z0 h → h.NoLimit
noncomputable def Glob (mg mb : Str → Option Value) (x : Str) (v : Value) : Prop := mg x = some v ∨ (mg x = none ∧ mb x = some v)
variable {prog : Program} {w : World} {Z0 : Fz} {k : Nat} {mg mb : Str → Option Value}
section
variable {env : Env} {ρ : PEnv}
theorem Ev.glob {x : Str} {pos : Pos} {v : Value} {d : PV} (B : Base Z0 mg mb) (hv : Glob mg mb x v) (hd : ∀ Z, LeZ Z0 Z → Rep Z v d) (hx : env.kindOf x = some .globalImplicit := by rfl) (hd' : (x == ("__debug__" : Str)) = false := by decide) :
    Ev prog w Z0 k env ρ (.Name x pos) d := fun S Z s A E r p => by
  refine wpAny_Name ?_ hd'
  rw [loadName_read p.kind hx]
  unfold loadGlobal
  rw [p.gl, p.bl]
  have h0 : InH Z0 s.heap := p.fin.of_le p.base
  refine wpAny_bind (wpAny_nsGet (B.g _ h0) ?_)
  rcases hv with hv | ⟨hn, hv⟩
  · rw [hv]; exact wpAny_pure ⟨Z, .refl p.fin, hd Z p.base⟩
  · rw [hn]
    refine wpAny_bind (wpAny_nsGet (B.b _ h0) ?_)
    rw [hv]; exact wpAny_pure ⟨Z, .refl p.fin, hd Z p.base⟩
theorem Ev.globV {x : Str} {pos : Pos} {v : Value} (B : Base Z0 mg mb) (hv : Glob mg mb x v) (hx : env.kindOf x = some .globalImplicit := by rfl) (hd' : (x == ("__debug__" : Str)) = false := by decide) :
    Ev prog w Z0 k env ρ (.Name x pos) (.val v) := Ev.glob B hv (fun _ _ => .val v) hx hd'
end
/-- a function's contract -/
noncomputable def Fn (prog : Program) (w : World) (Z0 : Fz) (k : Nat) (f : Value) (ds : List PV) (d : PV) : Prop :=
  ∀ (Z : Fz) (s : Shared) (A : Around) (vs : List Value), Room A k → LeZ Z0 Z → InH Z s.heap → RepL Z vs ds →
    codeAny (model prog w) A (.call f ⟨vs, []⟩) (fun r s' => ∃ v, r = .ok (.ret v) ∧ Post s Z d v s') s
theorem Fn.le {f : Value} {ds : List PV} {d : PV} {k' : Nat} (h : Fn prog w Z0 k f ds d) (hk : k ≤ k') : Fn prog w Z0 k' f ds d := fun Z s A vs r => h Z s A vs (r.le hk)
theorem Fn.call {f : Value} {ds : List PV} {d : PV} (h : Fn prog w Z0 k f ds d) {Z : Fz} {s : Shared} {A : Around} {vs : List Value} {E : Value → Shared → Prop} (r : Room A k) (hb : LeZ Z0 Z) (hi : InH Z s.heap) (hr : RepL Z vs ds) :
    wpAny (model prog w) A (call f vs) (Post s Z d) E s :=
  wpAny_call (codeAny_mono (h Z s A vs r hb hi hr) fun r s' q => by obtain ⟨v, rfl, q⟩ := q; exact q)
section
variable {env : Env} {ρ : PEnv} {fx : Str} {np pos : Pos} {e : Expr} {rest : List Expr} {ds : List PV} {d : PV}
theorem Ev.callF {f : Addr} {o : Obj} {fd : FuncData} (hf : Ev prog w Z0 k env ρ (.Name fx np) (.val (.ref f))) (ha : Evs prog w Z0 k env ρ (e :: rest) ds) (ho : Z0 f = some o) (hfd : o.data = .func fd) (hF : Fn prog w Z0 k (.ref f) ds d)
    (he : ∀ pos, backTo pos (starEach (e :: rest) env) = (false, eval e env) :: backTo pos (starEach rest env) := by intro _; rfl) :
    Ev prog w Z0 k env ρ (.Call (.Name fx np) (e :: rest) [] pos) d := fun S Z s A E r p => by
  refine wpAny_Call_NameR (wpAny_mono (hf S Z s A E r p) (fun v s₁ h₁ => ?_) fun _ _ x => x)
  obtain ⟨Z₁, e₁, r₁⟩ := h₁
  obtain rfl := r₁.isVal
  have p₁ := p.ext e₁
  refine callWith_function (o := o) (fd := fd) ?_
  have := ha.run S Z₁ s₁ A E pos r p₁
  rw [he pos] at this ⊢
  refine evalArgs_plain (wpAny_mono this (fun vs s₂ h₂ => ?_) fun _ _ x => x)
  obtain ⟨Z₂, e₂, r₂⟩ := h₂
  have p₂ := p₁.ext e₂
  exact ⟨⟨p₂.fin.get (p₂.base _ _ ho), hfd⟩, wpAny_mono (hF.call r p₂.base p₂.fin r₂) (fun _ _ q => q.ext (e₁.trans e₂)) fun _ _ x => x⟩
/-- a built-in function's call -/
theorem Ev.callB {id : String} (hf : Ev prog w Z0 k env ρ (.Name fx np) (.val (.builtin id))) (ha : Evs prog w Z0 k env ρ (e :: rest) ds)
    (ho : ∀ Z vs, LeZ Z0 Z → RepL Z vs ds → Op prog w Z0 k Z (call (.builtin id) vs) d)
    (he : ∀ pos, backTo pos (starEach (e :: rest) env) = (false, eval e env) :: backTo pos (starEach rest env) := by intro _; rfl) (hp : ∀ pos, (backTo pos (starEach (e :: rest) env)).any (·.1) = false := by intro _; rfl) :
    Ev prog w Z0 k env ρ (.Call (.Name fx np) (e :: rest) [] pos) d := fun S Z s A E r p => by
  refine wpAny_Call_NameR (wpAny_mono (hf S Z s A E r p) (fun v s₁ h₁ => ?_) fun _ _ x => x)
  obtain ⟨Z₁, e₁, r₁⟩ := h₁
  obtain rfl := r₁.isVal
  have p₁ := p.ext e₁
  refine callWith_builtin (hp pos) ?_
  have := ha.run S Z₁ s₁ A E pos r p₁
  rw [he pos] at this ⊢
  refine evalArgs_plain (wpAny_mono this (fun vs s₂ h₂ => ?_) fun _ _ x => x)
  obtain ⟨Z₂, e₂, r₂⟩ := h₂
  have p₂ := p₁.ext e₂
  exact wpAny_mono (ho Z₂ vs p₂.base r₂ s₂ A E r p₂.fin) (fun _ _ q => q.ext (e₁.trans e₂)) fun _ _ x => x
theorem Ev.callT {T : String} (hf : Ev prog w Z0 k env ρ (.Name fx np) (.val (.type T))) (ha : Evs prog w Z0 k env ρ (e :: rest) ds)
    (ho : ∀ Z vs, LeZ Z0 Z → RepL Z vs ds → Op prog w Z0 k Z (call (.type T) vs) d)
    (he : ∀ pos, backTo pos (starEach (e :: rest) env) = (false, eval e env) :: backTo pos (starEach rest env) := by intro _; rfl) (hp : ∀ pos, (backTo pos (starEach (e :: rest) env)).any (·.1) = false := by intro _; rfl) :
    Ev prog w Z0 k env ρ (.Call (.Name fx np) (e :: rest) [] pos) d := fun S Z s A E r p => by
  refine wpAny_Call_NameR (wpAny_mono (hf S Z s A E r p) (fun v s₁ h₁ => ?_) fun _ _ x => x)
  obtain ⟨Z₁, e₁, r₁⟩ := h₁
  obtain rfl := r₁.isVal
  have p₁ := p.ext e₁
  refine PySem.callWith_type (hp pos) ?_
  have := ha.run S Z₁ s₁ A E pos r p₁
  rw [he pos] at this ⊢
  refine evalArgs_plain (wpAny_mono this (fun vs s₂ h₂ => ?_) fun _ _ x => x)
  obtain ⟨Z₂, e₂, r₂⟩ := h₂
  have p₂ := p₁.ext e₂
  exact wpAny_mono (ho Z₂ vs p₂.base r₂ s₂ A E r p₂.fin) (fun _ _ q => q.ext (e₁.trans e₂)) fun _ _ x => x
end
/-- statements: what this frame alone writes -/
structure PreS (Z0 S Z : Fz) (env : Env) (ρ : PEnv) (s : Shared) : Prop extends Pre Z0 S Z env ρ s where
  SL : S env.locals = none
  ZL : Z env.locals = none
  cells : ∀ x, env.kindOf x = some .cell → env.func.isSome = true → ∃ c v, env.cells.lookup x = some c ∧ S c = none ∧ Z c = none ∧ s.heap.IsCell c v
  apart : ∀ x y c, env.kindOf x = some .cell → env.func.isSome = true → env.cells.lookup x = some c → env.cells.lookup y = some c → x = y
/-- a statement's step -/
structure Stp (S Z : Fz) (s s' : Shared) (Z' : Fz) : Prop where
  same : ∃ h' tk, s' = { s with heap := h', toks := tk }
  le : LeZ Z Z'
  fresh : ∀ a o, Z' a = some o → Z a = none → S a = none
  keepF : ∀ b o vs, s.heap.get? b = some o → o.data = .fields vs → ¬ Tb o → s'.heap.get? b = some o
  tabs : ∀ b o, s.heap.get? b = some o → Tb o → s'.heap.get? b = some o ∨ (Tab3 b ∧ ∃ vs more : Array Value, o = X.tableObj vs ∧ s'.heap.get? b = some (X.tableObj (vs ++ more)))
  freshF : ∀ a o o₀ vs, Z' a = some o → Z a = none → s.heap.get? a = some o₀ → ¬ Tb o₀ → o₀.data ≠ .fields vs
theorem Old.tabs {h h' : Heap} (x : Old h h') : ∀ b o, h.get? b = some o → Tb o → h'.get? b = some o ∨ (Tab3 b ∧ ∃ vs more : Array Value, o = X.tableObj vs ∧ h'.get? b = some (X.tableObj (vs ++ more))) := fun b o e _ => x b o e
section
variable {S Z Z' Z'' : Fz} {env : Env} {ρ : PEnv} {s s' s'' : Shared}
theorem Stp.refl : Stp S Z s s Z := ⟨⟨_, _, rfl⟩, .refl _, fun _ _ e e' => (by rw [e] at e'; cases e'), fun _ _ _ e _ _ => e, fun _ _ e _ => .inl e, fun _ _ _ _ e e' => (by rw [e] at e'; cases e')⟩
theorem Stp.trans (x : Stp S Z s s' Z') (y : Stp S Z' s' s'' Z'') : Stp S Z s s'' Z'' := by
  refine ⟨?_, x.le.trans y.le, fun a o e e' => ?_, fun b o vs e d n => y.keepF b o vs (x.keepF b o vs e d n) d n, fun b o e t => ?_, fun a o o₀ vs e e' h n d => ?_⟩
  · obtain ⟨h, t, rfl⟩ := x.same; obtain ⟨h', t', rfl⟩ := y.same; exact ⟨_, _, rfl⟩
  · cases q : Z' a with
    | none => exact y.fresh a o e q
    | some o' => exact x.fresh a o' q e'
  · rcases x.tabs b o e t with e₁ | ⟨t3, vs, more, rfl, e₁⟩
    · exact y.tabs b o e₁ t
    · rcases y.tabs b _ e₁ (Tb.table _) with e₂ | ⟨_, vs', more', q, e₂⟩
      · exact .inr ⟨t3, vs, more, rfl, e₂⟩
      · refine .inr ⟨t3, vs, more ++ more', rfl, ?_⟩
        have : vs' = vs ++ more := by injection q with _ _ q _; injection q with q; exact q.symm
        rw [e₂, this, Array.append_assoc]
  · cases q : Z' a with
    | none => exact y.freshF a o o₀ vs e q (x.keepF a o₀ vs h d n) n d
    | some o' => exact x.freshF a o' o₀ vs q e' h n d
theorem Ext.stp (p : InH S s.heap) (e : Ext s Z s' Z') : Stp S Z s s' Z' := by
  exact ⟨e.same, e.le, fun a o q q' => p.off (e.fresh a o q q'), fun b o _ h _ n => e.keep b o h n, e.old.tabs, fun a o o₀ vs q q' h _ => (by rw [e.fresh a o q q'] at h; cases h)⟩
theorem PreS.ext (p : PreS Z0 S Z env ρ s) (e : Ext s Z s' Z') : PreS Z0 S Z' env ρ s' := by
  refine ⟨p.toPre.ext e, p.SL, ?_, fun x hx hF => ?_, p.apart⟩
  · obtain ⟨m, o, es, ep, ho, _⟩ := p.ns
    exact e.off ho p.ZL
  · obtain ⟨c, v, h1, h2, h3, h4⟩ := p.cells x hx hF
    exact ⟨c, v, h1, h2, let ⟨o, ho, _⟩ := h4; e.off ho h3, IsCell_keeps e.keep h4⟩
theorem PreS.weaken {ρ' : PEnv} (p : PreS Z0 S Z env ρ s) (h : ∀ x sl, ρ'.lookup x = some sl → ρ.lookup x = some sl) : PreS Z0 S Z env ρ' s :=
  ⟨p.toPre.weaken h, p.SL, p.ZL, p.cells, p.apart⟩
theorem Ns_unique {h : Heap} {L : Addr} {m m' : Str → Option Value} (a : h.Ns L m) (b : h.Ns L m') : m = m' := by
  obtain ⟨o, es, ep, ho, hd, _, hf⟩ := a
  obtain ⟨o', es', ep', ho', hd', _, hf'⟩ := b
  rw [ho] at ho'; cases ho'
  rw [hd] at hd'; cases hd'
  funext x
  rw [← hf, hf']
/-- a heap that turns at one place that this frame alone writes -/
theorem SlotIs.same {L c : Addr} {h h' : Heap} {v : Value} (hs : Heap.SameBut c h h') (hc : ∀ o, h.get? c = some o → (∀ vs n, o.data ≠ .seq vs n) ∧ (∀ es n, o.data = .dict es n → c = L)) :
    ∀ {sl : Slot}, SlotIs S Z h L v sl → SlotIs S Z h' L v sl := fun x => x.gen (.refl _) (fun a o h2 _ hd => (hs.2 a (by
      rintro rfl
      rcases hd with ⟨vs, n, hd⟩ | ⟨hL, es, n, hd⟩
      · exact (hc _ h2).1 _ _ hd
      · exact hL ((hc _ h2).2 _ _ hd))).trans h2) fun _ _ _ z => z
theorem lookup_cons_ne {x y : Str} {sl : Slot} (h : y ≠ x) : ((x, sl) :: ρ).lookup y = ρ.lookup y := by
  have : (y == x) = false := by simpa using h
  simp [List.lookup_cons, this]
theorem InH_same {c : Addr} {h h' : Heap} (hi : InH Z h) (hs : Heap.SameBut c h h') (hz : Z c = none) : InH Z h' := fun a o e => ⟨(hs.2 a (by rintro rfl; rw [hz] at e; cases e)).trans (hi.get e), hi.nt e⟩
theorem tabs_same {c : Addr} {h h' : Heap} (hs : Heap.SameBut c h h') (hc : ∀ o, h.get? c = some o → ¬ Tb o) : ∀ b o, h.get? b = some o → Tb o → h'.get? b = some o ∨ (Tab3 b ∧ ∃ vs more : Array Value, o = X.tableObj vs ∧ h'.get? b = some (X.tableObj (vs ++ more))) :=
  fun b o e t => .inl ((hs.2 b (by rintro rfl; exact hc o e t)).trans e)
/-- storing into a name -/
theorem PreS.store {x : Str} {v : Value} {sl : Slot} {A : Around} {E : Value → Shared → Prop} {Q : Unit → Shared → Prop} (p : PreS Z0 S Z env ρ s) (hx : env.kindOf x = some .local ∨ env.kindOf x = some .cell ∧ env.func.isSome = true)
    (hv : SlotIs S Z s.heap env.locals v sl) (h : ∀ s', Stp S Z s s' Z → PreS Z0 S Z env ((x, sl) :: ρ) s' → (env.kindOf x = some .local → Heap.SameBut env.locals s.heap s'.heap) → Q () s') : wpAny (model prog w) A (storeName env x v) Q E s := by
  obtain ⟨m, hm⟩ := p.ns
  obtain ⟨oL, esL, epL, hoL, hdL, _⟩ := id hm
  have hcL : ∀ o, s.heap.get? env.locals = some o → (∀ vs n, o.data ≠ .seq vs n) ∧ (∀ es n, o.data = .dict es n → env.locals = env.locals) := fun o ho => by
    rw [hoL] at ho; cases ho; rw [hdL]; exact ⟨fun _ _ e => (nomatch e), fun _ _ _ => rfl⟩
  rcases hx with hx | ⟨hx, hfun⟩
  · refine wpAny_storeName_local hx hm (fun h' hn' hs' => h _ ?_ ?_ fun _ => hs') (by rw [p.kind]; rfl)
    · refine ⟨⟨_, _, rfl⟩, .refl _, fun _ _ e e' => (by rw [e] at e'; cases e'), fun b o vs e d _ => ?_, tabs_same hs' (fun o ho => (by rw [hoL] at ho; cases ho; exact Tb.dict hdL)), fun _ _ _ _ e e' => (by rw [e] at e'; cases e')⟩
      refine (hs'.2 b ?_).trans e
      rintro rfl
      rw [hoL] at e; cases e; rw [hdL] at d; cases d
    · refine ⟨⟨p.base, InH_same p.fin hs' p.ZL, InH_same p.snap hs' p.SL, p.kind, p.gl, p.bl, ⟨_, hn'⟩, fun y sl' hy => ?_⟩, p.SL, p.ZL, fun y hy hF => ?_, p.apart⟩
      · by_cases hyx : y = x
        · subst hyx
          simp at hy
          subst hy
          exact ⟨v, .inl ⟨hx, _, hn', by simp⟩, hv.same hs' hcL⟩
        · rw [lookup_cons_ne hyx] at hy
          obtain ⟨u, h1, h2⟩ := p.vars y sl' hy
          refine ⟨u, ?_, h2.same hs' hcL⟩
          rcases h1 with ⟨hk, m', hm', hu⟩ | ⟨hk, c, hc, hu⟩
          · cases Ns_unique hm hm'
            exact .inl ⟨hk, _, hn', by simpa [hyx] using hu⟩
          · refine .inr ⟨hk, c, hc, hu.sameBut hs' ?_⟩
            rintro rfl
            obtain ⟨o, ho, hd⟩ := hu
            rw [hoL] at ho; cases ho; rw [hdL] at hd; cases hd
      · obtain ⟨c, u, h1, h2, h3, h4⟩ := p.cells y hy hF
        refine ⟨c, u, h1, h2, h3, h4.sameBut hs' ?_⟩
        rintro rfl
        obtain ⟨o, ho, hd⟩ := h4
        rw [hoL] at ho; cases ho; rw [hdL] at hd; cases hd
  · obtain ⟨c, v₀, hc, hSc, hZc, hcell⟩ := p.cells x hx hfun
    obtain ⟨oc, hoc, hdc⟩ := id hcell
    have hcc : ∀ o, s.heap.get? c = some o → (∀ vs n, o.data ≠ .seq vs n) ∧ (∀ es n, o.data = .dict es n → c = env.locals) := fun o ho => by
      rw [hoc] at ho; cases ho; rw [hdc]; exact ⟨fun _ _ e => (nomatch e), fun _ _ e => (nomatch e)⟩
    have hLc : env.locals ≠ c := by rintro e; rw [← e, hoL] at hoc; cases hoc; rw [hdL] at hdc; cases hdc
    refine wpAny_storeName_cell p.kind hx hc hcell fun h' hc' hs' => h _ ?_ ?_ fun q => (by rw [hx] at q; cases q)
    · refine ⟨⟨_, _, rfl⟩, .refl _, fun _ _ e e' => (by rw [e] at e'; cases e'), fun b o vs e d _ => ?_, tabs_same hs' (fun o ho => (by rw [hoc] at ho; cases ho; exact Tb.cell hdc)), fun _ _ _ _ e e' => (by rw [e] at e'; cases e')⟩
      refine (hs'.2 b ?_).trans e
      rintro rfl
      rw [hoc] at e; cases e; rw [hdc] at d; cases d
    · refine ⟨⟨p.base, InH_same p.fin hs' hZc, InH_same p.snap hs' hSc, p.kind, p.gl, p.bl, ⟨_, hm.sameBut hs' hLc⟩, fun y sl' hy => ?_⟩, p.SL, p.ZL, fun y hy hF => ?_, p.apart⟩
      · by_cases hyx : y = x
        · subst hyx
          simp at hy
          subst hy
          exact ⟨v, .inr ⟨.inl hx, c, hc, hc'⟩, hv.same hs' hcc⟩
        · rw [lookup_cons_ne hyx] at hy
          obtain ⟨u, h1, h2⟩ := p.vars y sl' hy
          refine ⟨u, ?_, h2.same hs' hcc⟩
          rcases h1 with ⟨hk, m', hm', hu⟩ | ⟨hk, c', hcy, hu⟩
          · exact .inl ⟨hk, _, hm'.sameBut hs' hLc, hu⟩
          · exact .inr ⟨hk, c', hcy, hu.sameBut hs' fun e => hyx (p.apart x y c hx hfun hc (e ▸ hcy)).symm⟩
      · obtain ⟨c', u, h1, h2, h3, h4⟩ := p.cells y hy hF
        by_cases hcc' : c' = c
        · exact ⟨c', _, h1, h2, h3, hcc' ▸ hc'⟩
        · exact ⟨c', u, h1, h2, h3, h4.sameBut hs' hcc'⟩
end
end Mq
set_option tactic.hygienic false
namespace Mq
open PySem PySem.Spec PySem.Calls PyProof.Rows PySem.W
variable {prog : Program} {w : World} {Z0 : Fz} {k : Nat} {mg mb : Str → Option Value}
/-- statements that go on -/
inductive PostS (Z0 S Z : Fz) (env : Env) (s : Shared) (ρ' : PEnv) (f : Flow) (s' : Shared) : Prop
  | mk (_ : f = .next) (Z' : Fz) (_ : Stp S Z s s' Z') (_ : PreS Z0 S Z' env ρ' s') : PostS Z0 S Z env s ρ' f s'
inductive PostR (S Z : Fz) (s : Shared) (d : PV) (f : Flow) (s' : Shared) : Prop
  | mk (v : Value) (Z' : Fz) (_ : f = .ret v) (_ : Stp S Z s s' Z') (_ : InH S s'.heap) (_ : InH Z' s'.heap) (_ : Rep Z' v d) : PostR S Z s d f s'
inductive PostT (Z0 S Z : Fz) (env : Env) (ρ' : PEnv) (s s' : Shared) : Prop
  | mk (Z' : Fz) (_ : Stp S Z s s' Z') (_ : PreS Z0 S Z' env ρ' s') : PostT Z0 S Z env ρ' s s'
noncomputable def X1 (prog : Program) (w : World) (Z0 : Fz) (k : Nat) (env : Env) (ρ : PEnv) (st : Stmt) (ρ' : PEnv) : Prop :=
  ∀ (S Z : Fz) (s : Shared) (A : Around) (E : Value → Shared → Prop), Room A k → PreS Z0 S Z env ρ s → wpAny (model prog w) A (exec st env) (PostS Z0 S Z env s ρ') E s
noncomputable def Ex (prog : Program) (w : World) (Z0 : Fz) (k : Nat) (env : Env) (ρ : PEnv) (st : List Stmt) (ρ' : PEnv) : Prop :=
  ∀ (S Z : Fz) (s : Shared) (A : Around) (E : Value → Shared → Prop), Room A k → PreS Z0 S Z env ρ s → wpAny (model prog w) A (execs st env) (PostS Z0 S Z env s ρ') E s
/-- statements that return -/
noncomputable def Bd (prog : Program) (w : World) (Z0 : Fz) (k : Nat) (env : Env) (ρ : PEnv) (st : List Stmt) (d : PV) : Prop :=
  ∀ (S Z : Fz) (s : Shared) (A : Around) (E : Value → Shared → Prop), Room A k → PreS Z0 S Z env ρ s → wpAny (model prog w) A (execs st env) (PostR S Z s d) E s
/-- a target takes a value -/
noncomputable def Tg (prog : Program) (w : World) (Z0 : Fz) (k : Nat) (env : Env) (ρ : PEnv) (t : Expr) (d : PV) (ρ' : PEnv) : Prop :=
  ∀ (S Z : Fz) (s : Shared) (A : Around) (E : Value → Shared → Prop) (v : Value), Room A k → PreS Z0 S Z env ρ s → Rep Z v d → wpAny (model prog w) A (assign t env v) (fun _ s' => PostT Z0 S Z env ρ' s s') E s
section
variable {env : Env} {ρ ρ₁ ρ₂ : PEnv}
theorem Ex.nil (h : ∀ x sl, ρ₁.lookup x = some sl → ρ.lookup x = some sl) : Ex prog w Z0 k env ρ [] ρ₁ := fun S Z s A E r p => wpAny_execs_nil ⟨rfl, Z, .refl, p.weaken h⟩
theorem Ex.nil' : Ex prog w Z0 k env ρ [] ρ := Ex.nil fun _ _ h => h
theorem Ex.cons {st : Stmt} {rest : List Stmt} (h : X1 prog w Z0 k env ρ st ρ₁) (t : Ex prog w Z0 k env ρ₁ rest ρ₂) : Ex prog w Z0 k env ρ (st :: rest) ρ₂ := fun S Z s A E r p =>
  wpAny_execs_cons (wpAny_mono (h S Z s A E r p) (fun f s₁ h₁ => by
    obtain ⟨rfl, Z₁, e₁, p₁⟩ := h₁
    refine wpAny_mono (t S Z₁ s₁ A E r p₁) (fun f s₂ h₂ => ?_) fun _ _ x => x
    obtain ⟨rfl, Z₂, e₂, p₂⟩ := h₂
    exact ⟨rfl, Z₂, e₁.trans e₂, p₂⟩) fun _ _ x => x)
theorem Bd.cons {st : Stmt} {rest : List Stmt} {d : PV} (h : X1 prog w Z0 k env ρ st ρ₁) (t : Bd prog w Z0 k env ρ₁ rest d) : Bd prog w Z0 k env ρ (st :: rest) d := fun S Z s A E r p =>
  wpAny_execs_cons (wpAny_mono (h S Z s A E r p) (fun f s₁ h₁ => by
    obtain ⟨rfl, Z₁, e₁, p₁⟩ := h₁
    refine wpAny_mono (t S Z₁ s₁ A E r p₁) (fun f s₂ h₂ => ?_) fun _ _ x => x
    obtain ⟨v, Z₂, rfl, e₂, q1, q2, q3⟩ := h₂
    exact ⟨v, Z₂, rfl, e₁.trans e₂, q1, q2, q3⟩) fun _ _ x => x)
theorem Ex.weaken {st : List Stmt} (h : Ex prog w Z0 k env ρ st ρ₁) (hw : ∀ x sl, ρ₂.lookup x = some sl → ρ₁.lookup x = some sl) : Ex prog w Z0 k env ρ st ρ₂ := fun S Z s A E r p =>
  wpAny_mono (h S Z s A E r p) (fun f s₁ h₁ => by obtain ⟨rfl, Z₁, e₁, p₁⟩ := h₁; exact ⟨rfl, Z₁, e₁, p₁.weaken hw⟩) fun _ _ x => x
theorem X1.weaken {st : Stmt} (h : X1 prog w Z0 k env ρ st ρ₁) (hw : ∀ x sl, ρ₂.lookup x = some sl → ρ₁.lookup x = some sl) : X1 prog w Z0 k env ρ st ρ₂ := fun S Z s A E r p =>
  wpAny_mono (h S Z s A E r p) (fun f s₁ h₁ => by obtain ⟨rfl, Z₁, e₁, p₁⟩ := h₁; exact ⟨rfl, Z₁, e₁, p₁.weaken hw⟩) fun _ _ x => x
theorem Bd.pre {st : List Stmt} {d : PV} (h : Bd prog w Z0 k env ρ st d) (hw : ∀ x sl, ρ.lookup x = some sl → ρ₁.lookup x = some sl) : Bd prog w Z0 k env ρ₁ st d := fun S Z s A E r p => h S Z s A E r (p.weaken hw)
theorem Ex.pre {st : List Stmt} (h : Ex prog w Z0 k env ρ st ρ₂) (hw : ∀ x sl, ρ.lookup x = some sl → ρ₁.lookup x = some sl) : Ex prog w Z0 k env ρ₁ st ρ₂ := fun S Z s A E r p => h S Z s A E r (p.weaken hw)
theorem Bd.ret {e : Expr} {pos : Pos} {rest : List Stmt} {d : PV} (h : Ev prog w Z0 k env ρ e d) : Bd prog w Z0 k env ρ (.Return (some e) pos :: rest) d := fun S Z s A E r p =>
  wpAny_execs_cons (wpAny_Return_some (wpAny_mono (h S Z s A E r p.toPre) (fun v s₁ h₁ => by
    obtain ⟨Z₁, e₁, r₁⟩ := h₁
    exact ⟨v, Z₁, rfl, e₁.stp p.snap, (p.ext e₁).snap, e₁.fin, r₁⟩) fun _ _ x => x))
/-- a name that this frame alone writes is handed back -/
theorem Bd.ret_own {x : Str} {pos np : Pos} {rest : List Stmt} {xs : List PV} (hx : ρ.lookup x = some (.own xs)) (hd : (x == ("__debug__" : Str)) = false := by decide) (hn : (x == ("__classdict__" : Str)) = false := by decide) :
    Bd prog w Z0 k env ρ (.Return (some (.Name x np)) pos :: rest) (.list xs) := fun S Z s A E r p => by
  obtain ⟨v, h1, a, vs, n, rfl, ha, hr, hz, hS⟩ := p.vars x _ hx
  have fin : PostR S Z s (.list xs) (.ret (.ref a)) s := by
    refine ⟨_, Z.add a (listObj vs n), rfl, ⟨⟨_, _, rfl⟩, Fz.le_add hz, fun b o e e' => ?_, fun _ _ _ e _ _ => e, fun _ _ e _ => .inl e, fun b o o₀ us e e' h _ => ?_⟩, p.snap, p.fin.add ha (Tb.seq rfl), .list (Fz.add_self ..) rfl rfl rfl (hr.mono (Fz.le_add hz))⟩
    · unfold Fz.add at e
      split at e
      · rename_i q; subst q; exact hS
      · rw [e'] at e; cases e
    · unfold Fz.add at e
      split at e
      · rename_i q; subst q; rw [ha] at h; cases h; exact fun q => nomatch q
      · rw [e'] at e; cases e
  refine wpAny_execs_cons (wpAny_Return_some (wpAny_Name ?_ hd))
  rcases h1 with ⟨hk, m, hm, hv⟩ | ⟨hk | hk, c, hc, hv⟩
  · exact wpAny_loadName_local p.kind hk hm hv fin
  · exact wpAny_loadName_cell p.kind hk hc hv fin
  · exact wpAny_loadName_free p.kind hk hc hv fin hn
theorem Tg.name {x : Str} {pos : Pos} {d : PV} (hx : env.kindOf x = some .local ∨ env.kindOf x = some .cell ∧ env.func.isSome = true) : Tg prog w Z0 k env ρ (.Name x pos) d ((x, .fz d) :: ρ) := fun S Z s A E v r p hr =>
  wpAny_assign_Name (p.store (sl := .fz d) hx hr fun s' e' p' _ => ⟨Z, e', p'⟩)
theorem X1.assign {x : Str} {np pos : Pos} {e : Expr} {d : PV} (h : Ev prog w Z0 k env ρ e d) (hx : env.kindOf x = some .local ∨ env.kindOf x = some .cell ∧ env.func.isSome = true) (hs : swapsWith e (some (.Name x np)) pos.line env = pure false := by rfl) :
    X1 prog w Z0 k env ρ (.Assign [.Name x np] e pos) ((x, .fz d) :: ρ) := fun S Z s A E r p =>
  wpAny_Assign_Name (wpAny_mono (h S Z s A E r p.toPre) (fun v s₁ h₁ => by
    obtain ⟨Z₁, e₁, r₁⟩ := h₁
    exact (p.ext e₁).store (sl := .fz d) hx r₁ fun s' e' p' _ => ⟨rfl, Z₁, (e₁.stp p.snap).trans e', p'⟩) fun _ _ x => x) hs
/-- an empty list that this frame alone writes -/
theorem X1.newList {x : Str} {np pos lp : Pos} (hx : env.kindOf x = some .local ∨ env.kindOf x = some .cell ∧ env.func.isSome = true) (hs : swapsWith (.List [] lp) (some (.Name x np)) pos.line env = pure false := by rfl) :
    X1 prog w Z0 k env ρ (.Assign [.Name x np] (.List [] lp) pos) ((x, .own []) :: ρ) := fun S Z s A E r p =>
  wpAny_Assign_Name (wpAny_List (wpAny_items_nil ⟨by simp, by
    have e₁ : Ext s Z { s with heap := s.heap.push { cls := .type "list", data := .seq ([] : List Value).toArray } } Z := Ext.keeps (t := s.toks) p.fin fun _ _ e => Heap.get?_push_of_some _ e
    have hn := get?_size s.heap
    refine (p.ext e₁).store (sl := .own []) hx ⟨s.heap.objs.size, [], 0, rfl, Heap.get?_push_size _ rfl, .nil, p.fin.off hn, p.snap.off hn⟩ fun s' e' p' _ => ⟨rfl, Z, (e₁.stp p.snap).trans e', p'⟩⟩)) hs
theorem X1.cond {t : Expr} {b o : List Stmt} {pos : Pos} {c : Bool} (ht : Tr prog w Z0 k env ρ t c) (hb : c = true → Ex prog w Z0 k env ρ b ρ₁) (ho : c = false → Ex prog w Z0 k env ρ o ρ₁) : X1 prog w Z0 k env ρ (.If t b o pos) ρ₁ := fun S Z s A E r p =>
  wpAny_If (wpAny_mono (ht S Z s A E r p.toPre) (fun c' s₁ h₁ => by
    obtain ⟨rfl, Z₁, e₁⟩ := h₁
    cases c' with
    | true => exact wpAny_mono (hb rfl S Z₁ s₁ A E r (p.ext e₁)) (fun f s₂ h₂ => by obtain ⟨rfl, Z₂, e₂, p₂⟩ := h₂; exact ⟨rfl, Z₂, (e₁.stp p.snap).trans e₂, p₂⟩) fun _ _ x => x
    | false => exact wpAny_mono (ho rfl S Z₁ s₁ A E r (p.ext e₁)) (fun f s₂ h₂ => by obtain ⟨rfl, Z₂, e₂, p₂⟩ := h₂; exact ⟨rfl, Z₂, (e₁.stp p.snap).trans e₂, p₂⟩) fun _ _ x => x) fun _ _ x => x)
theorem Bd.cond_ret {t : Expr} {b o rest : List Stmt} {pos : Pos} {d : PV} (ht : Tr prog w Z0 k env ρ t true) (hb : Bd prog w Z0 k env ρ b d) : Bd prog w Z0 k env ρ (.If t b o pos :: rest) d := fun S Z s A E r p =>
  wpAny_execs_cons (wpAny_If (wpAny_mono (ht S Z s A E r p.toPre) (fun c' s₁ h₁ => by
    obtain ⟨rfl, Z₁, e₁⟩ := h₁
    exact wpAny_mono (hb S Z₁ s₁ A E r (p.ext e₁)) (fun f s₂ h₂ => by obtain ⟨v, Z₂, rfl, e₂, q1, q2, q3⟩ := h₂; exact ⟨v, Z₂, rfl, (e₁.stp p.snap).trans e₂, q1, q2, q3⟩) fun _ _ x => x) fun _ _ x => x))
end
/-- a function whose closure is empty -/
theorem bindL_not {kd : Str → Option NameKind} : ∀ (r : List (Str × Value)) (m : Str → Option Value) (x : Str), x ∉ r.map (·.1) → bindL kd r m x = m x
  | [], m, x, h => rfl
  | (n, v) :: r, m, x, h => by
    unfold bindL
    rw [bindL_not r _ x (fun q => h (by simp [q]))]
    split
    · have : x ≠ n := fun q => h (by simp [q])
      simp [this]
    · rfl
theorem bindC_not {kd : Str → Option NameKind} : ∀ (r : List (Str × Value)) (m : Str → Option Value) (x : Str), x ∉ r.map (·.1) → bindC kd r m x = m x
  | [], m, x, h => rfl
  | (n, v) :: r, m, x, h => by
    unfold bindC
    rw [bindC_not r _ x (fun q => h (by simp [q]))]
    split
    · rfl
    · have : x ≠ n := fun q => h (by simp [q])
      simp [this]
theorem bindL_mem {kd : Str → Option NameKind} : ∀ {r : List (Str × Value)} {m : Str → Option Value} {x : Str} {v : Value}, (r.map (·.1)).Nodup → (x, v) ∈ r → kd x = some .local → bindL kd r m x = some v := by
  intro r
  induction r with
  | nil => intro _ _ _ _ hm; cases hm
  | cons p r ih =>
    intro m x v hn hm hk
    obtain ⟨n, u⟩ := p
    rw [List.map_cons, List.nodup_cons] at hn
    unfold bindL
    rcases List.mem_cons.mp hm with e | hm
    · cases e
      rw [bindL_not r _ _ hn.1, if_pos hk]; simp
    · exact ih hn.2 hm hk
theorem bindC_mem {kd : Str → Option NameKind} : ∀ {r : List (Str × Value)} {m : Str → Option Value} {x : Str} {v : Value}, (r.map (·.1)).Nodup → (x, v) ∈ r → kd x ≠ some .local → bindC kd r m x = some v := by
  intro r
  induction r with
  | nil => intro _ _ _ _ hm; cases hm
  | cons p r ih =>
    intro m x v hn hm hk
    obtain ⟨n, u⟩ := p
    rw [List.map_cons, List.nodup_cons] at hn
    unfold bindC
    rcases List.mem_cons.mp hm with e | hm
    · cases e
      rw [bindC_not r _ _ hn.1, if_neg hk]; simp
    · exact ih hn.2 hm hk
theorem zip_lookup {Z : Fz} {names : List Str} {vs : List Value} {ds : List PV} {x : Str} {sl : Slot} (r : RepL Z vs ds) (e : (names.zip (ds.map Slot.fz)).lookup x = some sl) : ∃ v d, (x, v) ∈ names.zip vs ∧ sl = .fz d ∧ Rep Z v d := by
  refine r.ind (motive := fun vs ds => ∀ {names : List Str}, (names.zip (ds.map Slot.fz)).lookup x = some sl → ∃ v d, (x, v) ∈ names.zip vs ∧ sl = .fz d ∧ Rep Z v d) (fun {names} h => ?_) (fun {v vs d ds} h _ ih names e => ?_) e
  · rw [List.map_nil, List.zip_nil_right] at h; cases h
  · cases names with
    | nil => cases e
    | cons n names =>
      rw [List.map_cons, List.zip_cons_cons, List.lookup_cons] at e
      cases q : x == n with
      | true =>
        rw [q] at e; cases e
        exact ⟨v, d, beq_iff_eq.mp q ▸ .head _, rfl, h⟩
      | false =>
        rw [q] at e
        obtain ⟨v', d', h1, h2⟩ := ih e
        exact ⟨v', d', .tail _ h1, h2⟩
open Classical in
/-- all that stands, but for tables -/
noncomputable def snapZ (h : Heap) : Fz := fun a => match h.get? a with
  | some o => if Tb o then none else some o
  | none => none
theorem snapZ_some {h : Heap} {a : Addr} {o : Obj} (e : h.get? a = some o) (t : ¬ Tb o) : snapZ h a = some o := by simp [snapZ, e, t]
theorem snapZ_in (h : Heap) : InH (snapZ h) h := fun a o e => by
  unfold snapZ at e
  cases q : h.get? a with
  | none => rw [q] at e; cases e
  | some x =>
    rw [q] at e
    by_cases t : Tb x
    · simp [t] at e
    · simp [t] at e; subst e; exact ⟨rfl, t⟩
theorem Fn.mk {f : Addr} {o : Obj} {fd : FuncData} {body : List Stmt} {names : List Str} {ds : List PV} {d : PV} (B : Base Z0 mg mb) (ho : Z0 f = some o) (hdata : o.data = .func fd) (hcd : ∀ h, InH Z0 h → h.CodeRec fd.code fd.qualname)
    (hbody : fd.body = .stmts body) (hclo : fd.closure = []) (hlen : names.length = ds.length) (hbind : ∀ vs, vs.length = ds.length → bindArgs fd ⟨vs, []⟩ = pure (names.zip vs)) (hnd : names.Nodup)
    (hkind : ∀ x ∈ names, fd.scope.names.lookup x = some .local ∨ fd.scope.names.lookup x = some .cell) (hgl : fd.globals = mainGlobals) (hbl : fd.builtins = builtinsNs)
    (hB : ∀ L, Bd prog w Z0 k (callEnvC fd L f) (names.zip (ds.map .fz)) body d)
    (hco : fd.scope.isCoroutine = false := by rfl) (hgen : fd.scope.isGenerator = false := by rfl) (hk : fd.scope.kind = .function := by rfl) : Fn prog w Z0 (k + 1) (.ref f) ds d := fun Z s A vs r hb hi hr => by
  have h0 : InH Z0 s.heap := hi.of_le hb
  have hvl := hr.length
  refine codeAny_call_cells (by have := r.depth; (first | exact ar35 this | (first | lia | omega))) (hi.get (hb _ _ ho)) hdata (B.lim _ h0) (hcd _ h0) hbody (hbind vs hvl) hclo (fun x hx => ?_) (fun s₁ c => ?_) hco hgen hk
  · have hm : x.1 ∈ names := (List.of_mem_zip (a := x.1) (b := x.2) hx).1
    rcases hkind _ hm with q | q
    · exact .inl q
    · exact .inr ⟨q, cellsFrom_some _ _ _ (.inl q)⟩
  · have hkeep := c.toInCall.keep
    have hLn : s.heap.get? s.heap.objs.size = none := get?_size _
    have hnz : ((names.zip vs).map (·.1)).Nodup := by rw [List.map_fst_zip (by (first | exact ar36 hlen hvl | (first | lia | omega)))]; exact hnd
    have fresh : ∀ (F : Fz), InH F s.heap → ∀ a, s.heap.objs.size ≤ a → F a = none := fun F hF a ha => by
      cases q : F a with
      | none => rfl
      | some x => exact absurd (Heap.lt_size (hF.get q)) (Nat.not_lt.mpr ha)
    have hkp := (Old.of hkeep).kp
    have hsn : InH (snapZ s.heap) s.heap := snapZ_in _
    have p : PreS Z0 (snapZ s.heap) Z (callEnvC fd s.heap.objs.size f) (names.zip (ds.map .fz)) s₁ := by
      refine ⟨⟨hb, hi.keeps hkp, hsn.keeps hkp, hk, hgl, hbl, ⟨_, c.toInCall.ns⟩, fun x sl hx => ?_⟩, hsn.off hLn, fresh Z hi _ (Nat.le_refl _), fun x hx _ => ?_, fun x y a hx _ hxa hya => ?_⟩
      · obtain ⟨v, d', h1, rfl, h2⟩ := zip_lookup hr hx
        refine ⟨v, ?_, h2⟩
        have hm : x ∈ names := (List.of_mem_zip h1).1
        rcases hkind _ hm with q | q
        · exact .inl ⟨q, _, c.toInCall.ns, bindL_mem hnz h1 q⟩
        · obtain ⟨a, ha⟩ := Option.isSome_iff_exists.mp (cellsFrom_some fd.scope.names (s.heap.objs.size + 1) [] (.inl q))
          refine .inr ⟨.inl q, a, ha, ?_⟩
          have := c.cell x a ha
          rwa [bindC_mem hnz h1 (by rw [show (callEnvC fd s.heap.objs.size f).kindOf x = some .cell from q]; decide)] at this
      · obtain ⟨a, ha⟩ := Option.isSome_iff_exists.mp (cellsFrom_some fd.scope.names (s.heap.objs.size + 1) [] (.inl hx))
        have hlt := c.above x a (mem_of_lookup ha)
        have hlt' : s.heap.objs.size ≤ a := Nat.le_of_lt hlt
        exact ⟨a, _, ha, fresh _ hsn a hlt', fresh Z hi a hlt', c.cell x a ha⟩
      · exact name_of_addr c.apart (mem_of_lookup hxa) (mem_of_lookup hya)
    refine wpAny_mono (hB s.heap.objs.size _ Z s₁ _ _ (r.deeper _) p) (fun fl s' h' => ?_) fun _ _ x => x
    obtain ⟨v, Z', rfl, st, hS, hZ, rp⟩ := h'
    have old : Old s.heap s'.heap := fun b x e => by
      by_cases t : Tb x
      · exact st.tabs b x (hkeep b x e) t
      · exact .inl (hS.get (snapZ_some e t))
    refine ⟨v, rfl, Z', ⟨?_, old, st.le, hZ, fun a x e e' => ?_⟩, rp⟩
    · obtain ⟨h₁, t₁, rfl⟩ := c.toInCall.same
      obtain ⟨h₂, t₂, rfl⟩ := st.same
      exact ⟨_, _, rfl⟩
    · have hn := st.fresh a x e e'
      cases q : s.heap.get? a with
      | none => rfl
      | some y =>
        by_cases t : Tb y
        · rcases old a y q with q' | ⟨_, _, _, _, q'⟩
          · rw [hZ.get e] at q'; cases q'; exact absurd t (hZ.nt e)
          · rw [hZ.get e] at q'; cases q'; exact absurd (Tb.table _) (hZ.nt e)
        · rw [snapZ_some q t] at hn; cases hn
end Mq
set_option tactic.hygienic false
namespace Mq
open PySem PySem.Spec PySem.Calls PyProof.Rows PySem.W
variable {prog : Program} {w : World} {Z0 : Fz} {k : Nat} {mg mb : Str → Option Value}
/-- a walk over things that stand still -/
structure It (prog : Program) (w : World) (A : Around) (Z : Fz) (xs : List PV) (I : Addr) (fp : List Addr) (P : Nat → Value → Prop) (St : Nat → Heap → Prop) : Prop where
  W : Walks prog w A I fp [I] xs.length P St
  fp : ∀ b ∈ fp, b = I ∨ ∃ o, Z b = some o
  val : ∀ i v, i < xs.length → P i v → ∃ d, xs[i]? = some d ∧ Rep Z v d
  fld : ∀ i h, St i h → ∃ o vs T, h.get? I = some o ∧ o.cls = .type T ∧ (T = "list_iterator" ∨ T = "tuple_iterator" ∨ T = "range_iterator") ∧ o.data = .fields vs
inductive Iters : PV → List PV → Prop
  | list (xs : List PV) : Iters (.list xs) xs
  | tup (xs : List PV) : Iters (.tup xs) xs
  | range (n : Nat) : n < 2 ^ 60 → Iters (.range n) ((List.range n).map fun (i : Nat) => PV.int i)
theorem iter_start {A : Around} {E : Value → Shared → Prop} {s : Shared} {Z : Fz} {v : Value} {d : PV} {xs : List PV} {Q : Value → Shared → Prop} (hI : Iters d xs) (hr : Rep Z v d) (hi : InH Z s.heap) (hh : A.handled = none)
    (h : ∀ o fp P St, It prog w A Z xs s.heap.objs.size fp P St → o.isFreed = false → St 0 (s.heap.push o) → Q (.ref s.heap.objs.size) { s with heap := s.heap.push o }) : wpAny (model prog w) A (pyIter v) Q E s := by
  have keep : ∀ (o : Obj) b x, s.heap.get? b = some x → (s.heap.push o).get? b = some x := fun o b x e => Heap.get?_push_of_some _ e
  have ne : ∀ b x, s.heap.get? b = some x → b ≠ s.heap.objs.size := fun b x e => Nat.ne_of_lt (Heap.lt_size e)
  cases hI with
  | list =>
    cases hr with
    | @list a o n vs _ e c _ dd r =>
      have hl : s.heap.IsList a vs.toArray := ⟨_, hi.get e, c, _, dd⟩
      refine wpAny_pyIter_list hl (h _ [s.heap.objs.size, a] (fun i v => vs.toArray[i]? = some v) (fun i h => h.IsListIter s.heap.objs.size a i ∧ h.IsList a vs.toArray) ⟨?_, ?_, ?_, ?_⟩ rfl ⟨⟨_, Heap.get?_push_size _ rfl, rfl, rfl⟩, hl.push _⟩)
      · have W := Walks.list (prog := prog) (w := w) hh s.heap.objs.size a (ne _ _ (hi.get e)) vs.toArray
        have : vs.toArray.size = xs.length := by rw [List.size_toArray, r.length]
        rw [this] at W; exact W
      · intro b hb; simp at hb; rcases hb with rfl | rfl
        · exact .inl rfl
        · exact .inr ⟨_, e⟩
      · intro i v _ hv; exact r.get (by simpa using hv)
      · rintro i h ⟨⟨o, h1, h2, h3⟩, _⟩; exact ⟨o, _, _, h1, h2, .inl rfl, h3⟩
  | tup =>
    cases hr with
    | @tup a o n vs _ e c dd r =>
      have hl : s.heap.IsTuple a vs.toArray := ⟨_, hi.get e, c, _, dd⟩
      refine wpAny_pyIter_tuple hl (h _ [s.heap.objs.size, a] (fun i v => vs.toArray[i]? = some v) (fun i h => h.IsTupleIter s.heap.objs.size a i ∧ h.IsTuple a vs.toArray) ⟨?_, ?_, ?_, ?_⟩ rfl ⟨⟨_, Heap.get?_push_size _ rfl, rfl, rfl⟩, ⟨_, keep _ _ _ (hi.get e), c, _, dd⟩⟩)
      · have W := Walks.tuple (prog := prog) (w := w) hh s.heap.objs.size a (ne _ _ (hi.get e)) vs.toArray
        have : vs.toArray.size = xs.length := by rw [List.size_toArray, r.length]
        rw [this] at W; exact W
      · intro b hb; simp at hb; rcases hb with rfl | rfl
        · exact .inl rfl
        · exact .inr ⟨_, e⟩
      · intro i v _ hv; exact r.get (by simpa using hv)
      · rintro i h ⟨⟨o, h1, h2, h3⟩, _⟩; exact ⟨o, _, _, h1, h2, .inr (.inl rfl), h3⟩
  | range n hn =>
    cases hr with
    | @range a _ t u v e =>
      have hl := hi.get e
      have hz : Builtin.Range.rangeSize 0 (n : Int) 1 = (n : Int) := by rw [rangeSize_one]; (first | lia | omega)
      refine wpAny_pyIter_range hl (small_one (by (first | exact ar37 | (first | lia | omega))) (by (first | exact ar38 | (first | lia | omega))) (by (first | exact ar39 | (first | lia | omega))) (by (first | exact ar40 hn | (first | lia | omega)))) (h _ [s.heap.objs.size] (fun i v => ∃ t, v = .int (0 + (i : Int)) t) (fun i h => IsRangeIter h s.heap.objs.size (0 + (i : Nat) * 1) ((n : Int) - (i : Nat)) 1) ⟨?_, ?_, ?_, ?_⟩ rfl ?_)
      · have W := Walks.range (prog := prog) (w := w) hh s.heap.objs.size 0 1 n
        simpa using W
      · intro b hb; simp at hb; exact .inl hb
      · rintro i v hlt ⟨t, rfl⟩
        have : i < n := by simpa using hlt
        exact ⟨.int (i : Int), by simp [this], by rw [Int.zero_add]; exact .int _ _⟩
      · intro i h e'; exact ⟨_, _, _, e', rfl, .inr (.inr rfl), rfl⟩
      · show IsRangeIter _ _ _ _ _
        rw [hz]; simpa using Heap.get?_push_size s.heap rfl
end Mq
set_option tactic.hygienic false
namespace Mq
open PySem PySem.Spec PySem.Calls PyProof.Rows PySem.W
variable {prog : Program} {w : World} {Z0 : Fz} {k : Nat} {mg mb : Str → Option Value}
theorem SlotIs.but {S Z : Fz} {L I : Addr} {h h' : Heap} {v : Value} {o : Obj} {vs : Array Value} (ho : h.get? I = some o) (hd : o.data = .fields vs) (k : ∀ b x, b ≠ I → h.get? b = some x → h'.get? b = some x) :
    ∀ {sl : Slot}, SlotIs S Z h L v sl → SlotIs S Z h' L v sl := fun x => x.gen (.refl _) (fun a x h2 _ hx => k _ _ (by
      rintro rfl
      rw [ho] at h2; cases h2
      rcases hx with ⟨_, _, hx⟩ | ⟨_, _, _, hx⟩ <;> (rw [hd] at hx; cases hx)) h2) fun _ _ _ z => z
theorem IsCell.but {h h' : Heap} {I c : Addr} {v : Option Value} {o : Obj} {vs : Array Value} (ho : h.get? I = some o) (hd : o.data = .fields vs) (k : ∀ b x, b ≠ I → h.get? b = some x → h'.get? b = some x) (x : h.IsCell c v) : h'.IsCell c v := by
  obtain ⟨oc, hoc, hdc⟩ := x
  exact ⟨oc, k _ _ (by rintro rfl; rw [ho] at hoc; cases hoc; rw [hd] at hdc; cases hdc) hoc, hdc⟩
theorem Ns.but {h h' : Heap} {I c : Addr} {m : Str → Option Value} {o : Obj} {vs : Array Value} (ho : h.get? I = some o) (hd : o.data = .fields vs) (k : ∀ b x, b ≠ I → h.get? b = some x → h'.get? b = some x) (x : h.Ns c m) : h'.Ns c m := by
  obtain ⟨oc, es, ep, hoc, hdc, r⟩ := x
  exact ⟨oc, es, ep, k _ _ (by rintro rfl; rw [ho] at hoc; cases hoc; rw [hd] at hdc; cases hdc) hoc, hdc, r⟩
theorem InH.but {Z : Fz} {h h' : Heap} {I : Addr} (x : InH Z h) (hz : Z I = none) (k : ∀ b x, b ≠ I → h.get? b = some x → h'.get? b = some x) : InH Z h' := fun a o e =>
  ⟨k _ _ (by rintro rfl; rw [hz] at e; cases e) (x.get e), x.nt e⟩
section
variable {S Z Z' : Fz} {env : Env} {ρ : PEnv} {s s' : Shared}
theorem PreS.but {I : Addr} {o : Obj} {vs : Array Value} {h' : Heap} {tk : Nat} (p : PreS Z0 S Z env ρ s) (ho : s.heap.get? I = some o) (hd : o.data = .fields vs) (hz : Z I = none) (hS : S I = none)
    (k : ∀ b x, b ≠ I → s.heap.get? b = some x → h'.get? b = some x) : PreS Z0 S Z env ρ { s with heap := h', toks := tk } := by
  refine ⟨⟨p.base, p.fin.but hz k, p.snap.but hS k, p.kind, p.gl, p.bl, let ⟨m, h⟩ := p.ns; ⟨m, Ns.but ho hd k h⟩, fun x sl hx => ?_⟩, p.SL, p.ZL, fun x hx hF => ?_, p.apart⟩
  · obtain ⟨v, h1, h2⟩ := p.vars x sl hx
    refine ⟨v, ?_, h2.but ho hd k⟩
    rcases h1 with ⟨a, m, n, e⟩ | ⟨a, c, l, e⟩
    · exact .inl ⟨a, m, Ns.but ho hd k n, e⟩
    · exact .inr ⟨a, c, l, IsCell.but ho hd k e⟩
  · obtain ⟨c, v, h1, h2, h3, h4⟩ := p.cells x hx hF
    exact ⟨c, v, h1, h2, h3, IsCell.but ho hd k h4⟩
theorem Stp.but {I : Addr} {h' : Heap} {tk : Nat} (x : Stp S Z s s' Z') (hI : s.heap.get? I = none) (k : ∀ b x, b ≠ I → s'.heap.get? b = some x → h'.get? b = some x) : Stp S Z s { s' with heap := h', toks := tk } Z' := by
  have ne : ∀ b o, s.heap.get? b = some o → b ≠ I := by rintro b o e rfl; rw [hI] at e; cases e
  refine ⟨?_, x.le, x.fresh, fun b o vs e d n => k _ _ (ne b o e) (x.keepF b o vs e d n), fun b o e t => ?_, x.freshF⟩
  · obtain ⟨h, t, rfl⟩ := x.same; exact ⟨_, _, rfl⟩
  · rcases x.tabs b o e t with q | ⟨t3, us, more, rfl, q⟩
    · exact .inl (k _ _ (ne b o e) q)
    · exact .inr ⟨t3, us, more, rfl, k _ _ (ne b _ e) q⟩
end
theorem It.go {A : Around} {Z : Fz} {xs : List PV} {I : Addr} {fp : List Addr} {P : Nat → Value → Prop} {St : Nat → Heap → Prop} (it : It prog w A Z xs I fp P St) {i : Nat} {target : Expr} {v : Value} {s : Shared} {Q : Unit → Shared → Prop} {E : Value → Shared → Prop}
    (h : St i s.heap) (hQ : Q () s) : wpAny (model prog w) A (letOwnedTupleGo target (.ref I) v) Q E s := by
  obtain ⟨o, vs, T, ho, hc, hT, hd⟩ := it.fld i _ h
  unfold letOwnedTupleGo
  cases target <;> first
    | exact wpAny_pure hQ
    | (cases v <;> first
        | exact wpAny_pure hQ
        | (refine wpAny_bind (wpAny_load ho ?_)
           rw [hc, hd]
           rcases hT with rfl | rfl | rfl <;> exact wpAny_pure hQ))
theorem It.mono {A : Around} {Z Z' : Fz} {xs : List PV} {I : Addr} {fp : List Addr} {P : Nat → Value → Prop} {St : Nat → Heap → Prop} (it : It prog w A Z xs I fp P St) (h : LeZ Z Z') : It prog w A Z' xs I fp P St :=
  ⟨it.W, fun b hb => (it.fp b hb).imp_right fun ⟨o, e⟩ => ⟨o, h _ _ e⟩, fun i v a b => let ⟨d, e, r⟩ := it.val i v a b; ⟨d, e, r.mono h⟩, it.fld⟩
inductive LInv (Z0 S Z₁ Z₂ : Fz) (env : Env) (En : Nat → PEnv) (s₁ : Shared) (I : Addr) (St : Nat → Heap → Prop) (n : Nat) (m : Nat) (s' : Shared) : Prop
  | mk (i : Nat) (Z' : Fz) (_ : i ≤ n) (_ : m = n + 1 - i) (_ : St i s'.heap) (_ : LeZ Z₂ Z') (_ : Z' I = none) (_ : Stp S Z₁ s₁ s' Z') (_ : PreS Z0 S Z' env (En i) s') : LInv Z0 S Z₁ Z₂ env En s₁ I St n m s'
/-- the loop from a walk already begun -/
theorem loop_core {env : Env} {target : Expr} {body : List Stmt} {xs : List PV} {S Z₁ Z₂ : Fz} {s₁ s₂ : Shared} {A : Around} {I : Addr} {fp : List Addr} {P : Nat → Value → Prop} {St : Nat → Heap → Prop} {R : Result → Shared → Prop} (En : Nat → PEnv)
    (r : Room A k) (it : It prog w A Z₂ xs I fp P St) (hIn : s₁.heap.get? I = none) (hSI : S I = none) (hst : St 0 s₂.heap) (hZI₂ : Z₂ I = none) (st₂ : Stp S Z₁ s₁ s₂ Z₂) (p₂ : PreS Z0 S Z₂ env (En 0) s₂)
    (step : ∀ i x, xs[i]? = some x → ∃ ρt, Tg prog w Z0 k env (En i) target x ρt ∧ Ex prog w Z0 k env ρt body (En (i + 1)))
    (hR : ∀ s' Z', Stp S Z₁ s₁ s' Z' → PreS Z0 S Z' env (En xs.length) s' → R (.ok .next) s') : codeAny (model prog w) A (.forLoop target (.ref I) body [] env) R s₂ := by
  refine codeAny_forLoop_any (LInv Z0 S Z₁ Z₂ env En s₁ I St xs.length) ?_ (xs.length + 1) ⟨0, Z₂, by (first | exact ar41 | (first | lia | omega)), by (first | exact ar42 | (first | lia | omega)), hst, .refl _, hZI₂, st₂, p₂⟩
  rintro m s' ⟨i, Z', hle, rfl, hst', hZ', hZI, st, p'⟩
  obtain ⟨oI, us, T, hoI, hcI, _, hdI⟩ := it.fld i _ hst'
  by_cases hlt : i < xs.length
  · refine it.W.item i _ _ _ hlt hst' fun u h' tk hP hst₂ hk => ?_
    have hk' : ∀ b x, b ≠ I → s'.heap.get? b = some x → h'.get? b = some x := fun b x hb e => hk b x (by simpa using hb) e
    refine it.go hst₂ ?_
    have p₂ : PreS Z0 S Z' env (En i) { s' with heap := h', toks := tk } := p'.but hoI hdI hZI hSI hk'
    have st₂ : Stp S Z₁ s₁ { s' with heap := h', toks := tk } Z' := st.but hIn hk'
    obtain ⟨x, hx, rx⟩ := it.val i u hlt hP
    obtain ⟨ρt, ht, hb⟩ := step i x hx
    refine wpAny_mono (ht S Z' _ A _ u r p₂ (rx.mono hZ')) (fun _ s₃ h₃ => ?_) fun _ _ x => x
    obtain ⟨Z₃, st₃, p₃⟩ := h₃
    refine wpAny_mono (hb S Z₃ s₃ A _ r p₃) (fun f s₄ h₄ => ?_) fun _ _ x => x
    obtain ⟨rfl, Z₄, st₄, p₄⟩ := h₄
    have st' := st₃.trans st₄
    obtain ⟨oJ, us', T', hoJ, hcJ, _, hdJ⟩ := it.fld (i + 1) _ hst₂
    refine ⟨xs.length + 1 - (i + 1), by (first | exact ar43 hle | (first | lia | omega)), i + 1, Z₄, hlt, rfl, ?_, hZ'.trans st'.le, ?_, st₂.trans st', p₄⟩
    · refine it.W.frame _ _ _ hst₂ fun b hb o e => ?_
      rcases it.fp b hb with rfl | ⟨o', hz⟩
      · exact st'.keepF b o us' e (by rw [show h'.get? b = some oJ from hoJ] at e; cases e; exact hdJ) (by rw [show h'.get? b = some oJ from hoJ] at e; cases e; exact Tb.ty hcJ)
      · have := p₂.fin.get (hZ' _ _ hz)
        rw [show h'.get? b = some o from e] at this; cases this
        exact p₄.fin.get (st'.le _ _ (hZ' _ _ hz))
    · cases q : Z₄ I with
      | none => rfl
      | some y => exact absurd hdJ (st'.freshF I y oJ us' q hZI hoJ (Tb.ty hcJ))
  · have : i = xs.length := by (first | exact ar44 hle hlt | (first | lia | omega))
    subst this
    refine it.W.done _ _ _ hst' fun h' tk hk => ?_
    have hk' : ∀ b x, b ≠ I → s'.heap.get? b = some x → h'.get? b = some x := fun b x hb e => hk b x (by simpa using hb) e
    exact wpAny_execs_nil (hR _ Z' (st.but hIn hk') (p'.but hoI hdI hZI hSI hk'))
/-- a loop: the frame's names after i turns -/
theorem X1.loop {env : Env} {ρ : PEnv} {target iter : Expr} {body : List Stmt} {pos : Pos} {d : PV} {xs : List PV} (hI : Iters d xs) (hi : Ev prog w Z0 k env ρ iter d) (En : Nat → PEnv) (h0 : ∀ x sl, (En 0).lookup x = some sl → ρ.lookup x = some sl)
    (step : ∀ i x, xs[i]? = some x → ∃ ρt, Tg prog w Z0 k env (En i) target x ρt ∧ Ex prog w Z0 k env ρt body (En (i + 1)))
    (hs : ∀ x, foldedSetIterable iter env x = pure x := by intro _; rfl) : X1 prog w Z0 k env ρ (.For target iter body [] pos) (En xs.length) := fun S Z s A E r p => by
  refine wpAny_For (wpAny_mono (hi S Z s A E r p.toPre) (fun v s₁ h₁ => ?_) fun _ _ x => x) hs
  obtain ⟨Z₁, e₁, r₁⟩ := h₁
  have p₁ := p.ext e₁
  refine iter_start hI r₁ p₁.fin r.handled fun o fp P St it hf hst => ?_
  have hIn := get?_size s₁.heap
  have e₂ : Ext s₁ Z₁ { s₁ with heap := s₁.heap.push o } Z₁ := Ext.keeps (t := s₁.toks) p₁.fin fun _ _ e => Heap.get?_push_of_some _ e
  exact loop_core En r it hIn (p₁.snap.off hIn) hst (p₁.fin.off hIn) (e₂.stp p₁.snap) ((p₁.ext e₂).weaken h0) step fun s' Z' st p' => ⟨rfl, Z', (e₁.stp p.snap).trans st, p'⟩
/-- a tuple taken apart -/
noncomputable def Tgs (prog : Program) (w : World) (Z0 : Fz) (k : Nat) (env : Env) (ρ : PEnv) (ts : List (Value → Sem Unit)) (ds : List PV) (ρ' : PEnv) : Prop :=
  ∀ (S Z : Fz) (s : Shared) (A : Around) (E : Value → Shared → Prop) (vs : List Value), Room A k → PreS Z0 S Z env ρ s → RepL Z vs ds → wpAny (model prog w) A (assignInOrder ts vs) (fun _ s' => PostT Z0 S Z env ρ' s s') E s
section
variable {env : Env} {ρ ρ₁ ρ₂ : PEnv}
theorem Tgs.nil : Tgs prog w Z0 k env ρ [] [] ρ := fun S Z s A E vs r p hr => assignInOrder_nil ⟨Z, .refl, p⟩
theorem Tgs.cons {t : Expr} {ts : List (Value → Sem Unit)} {d : PV} {ds : List PV} (h : Tg prog w Z0 k env ρ t d ρ₁) (hs : Tgs prog w Z0 k env ρ₁ ts ds ρ₂) : Tgs prog w Z0 k env ρ (assign t env :: ts) (d :: ds) ρ₂ := fun S Z s A E vs r p hr => by
  cases hr with
  | cons h1 h2 =>
    refine assignInOrder_cons (wpAny_mono (h S Z s A E _ r p h1) (fun _ s₁ q => ?_) fun _ _ x => x)
    obtain ⟨Z₁, st, p₁⟩ := q
    refine wpAny_mono (hs S Z₁ s₁ A E _ r p₁ (h2.mono st.le)) (fun _ s₂ q => ?_) fun _ _ x => x
    obtain ⟨Z₂, st₂, p₂⟩ := q
    exact ⟨Z₂, st.trans st₂, p₂⟩
theorem Tg.tup {elts : List Expr} {kk : Nat} {pos : Pos} {ds : List PV} (h : Tgs prog w Z0 k env ρ ((assignEach elts env).map (·.2)) ds ρ₁) (hn : (assignEach elts env).length = ds.length) (hstar : (assignEach elts env).findIdx? (·.1) = none) :
    Tg prog w Z0 k env ρ (.Tuple elts kk pos) (.tup ds) ρ₁ := fun S Z s A E v r p hr => by
  cases hr with
  | @tup a o n vs _ e c dd rr =>
    refine wpAny_assign_Tuple r.handled (items := vs.toArray) ⟨_, p.fin.get e, c, _, dd⟩ (by simp [hn, rr.length]) hstar fun h' hx => ?_
    have e₁ : Ext s Z { s with heap := h' } Z := Ext.keeps (t := s.toks) p.fin fun b x q => hx b x (Nat.ne_of_lt (Heap.lt_size q)) q
    refine wpAny_mono (h S Z _ A E vs r (p.ext e₁) rr) (fun _ s₁ q => ?_) fun _ _ x => x
    obtain ⟨Z₁, st, p₁⟩ := q
    exact ⟨Z₁, (e₁.stp p.snap).trans st, p₁⟩
theorem X1.assignTup {elts : List Expr} {kk : Nat} {tp pos : Pos} {e : Expr} {d : PV} (h : Ev prog w Z0 k env ρ e d) (ht : Tg prog w Z0 k env ρ (.Tuple elts kk tp) d ρ₁) (hs : swapsWithSole [.Tuple elts kk tp] e pos.line env = pure false := by rfl) (hw : swappedStores [.Tuple elts kk tp] e env = pure none := by rfl) :
    X1 prog w Z0 k env ρ (.Assign [.Tuple elts kk tp] e pos) ρ₁ := fun S Z s A E r p =>
  PyProof.Rows.Assign_Tuple (wpAny_mono (h S Z s A E r p.toPre) (fun v s₁ h₁ => by
    obtain ⟨Z₁, e₁, r₁⟩ := h₁
    refine wpAny_mono (ht S Z₁ s₁ A E v r (p.ext e₁) r₁) (fun _ s₂ q => ?_) fun _ _ x => x
    obtain ⟨Z₂, st, p₂⟩ := q
    exact ⟨rfl, Z₂, (e₁.stp p.snap).trans st, p₂⟩) fun _ _ x => x) hs hw
end
end Mq
set_option tactic.hygienic false
namespace Mq
open PySem PySem.Spec PySem.Calls PyProof.Rows PySem.W
variable {prog : Program} {w : World} {Z0 : Fz} {k : Nat} {mg mb : Str → Option Value}
section
variable {S Z Z' : Fz} {env : Env} {ρ ρ₁ : PEnv} {s s' : Shared}
theorem PreS.put {x : Str} {sl' : Slot} {a : Addr} {o : Obj} {h' : Heap} {tk : Nat} (p : PreS Z0 S Z env ρ s) (h1 : Holds s.heap env x (.ref a)) (ho : s.heap.get? a = some o) (hf : ∀ vs, o.data ≠ .fields vs) (hc : ∀ v, o.data ≠ .cell v) (hL : a ≠ env.locals)
    (hz : Z a = none) (hS : S a = none) (hs : Heap.SameBut a s.heap h') (hnew : SlotIs S Z h' env.locals (.ref a) sl')
    (oth : ∀ y u sl, y ≠ x → ρ.lookup y = some sl → SlotIs S Z s.heap env.locals u sl → SlotIs S Z h' env.locals u sl) :
    PreS Z0 S Z env ((x, sl') :: ρ) { s with heap := h', toks := tk } ∧ Stp S Z s { s with heap := h', toks := tk } Z := by
  have cellK : ∀ {c : Addr} {v : Option Value}, s.heap.IsCell c v → h'.IsCell c v := fun {c v} x => by
    obtain ⟨oc, hoc, hdc⟩ := x
    exact ⟨oc, (hs.2 c (by rintro rfl; rw [ho] at hoc; cases hoc; exact hc _ hdc)).trans hoc, hdc⟩
  have nsK : ∀ {m : Str → Option Value}, s.heap.Ns env.locals m → h'.Ns env.locals m := fun x => x.sameBut hs (Ne.symm hL)
  have holdK : ∀ {y : Str} {u : Value}, Holds s.heap env y u → Holds h' env y u := fun {y u} q => by
    rcases q with ⟨b, m, n, e⟩ | ⟨b, c, l, e⟩
    · exact .inl ⟨b, m, nsK n, e⟩
    · exact .inr ⟨b, c, l, cellK e⟩
  refine ⟨⟨⟨p.base, InH_same p.fin hs hz, InH_same p.snap hs hS, p.kind, p.gl, p.bl, let ⟨m, h⟩ := p.ns; ⟨m, nsK h⟩, fun y sl hy => ?_⟩, p.SL, p.ZL, fun y hy hF => ?_, p.apart⟩, ?_⟩
  · by_cases hyx : y = x
    · subst hyx
      simp at hy
      subst hy
      exact ⟨_, holdK h1, hnew⟩
    · rw [lookup_cons_ne hyx] at hy
      obtain ⟨u, q1, q2⟩ := p.vars y sl hy
      exact ⟨u, holdK q1, oth y u sl hyx hy q2⟩
  · obtain ⟨c, v, q1, q2, q3, q4⟩ := p.cells y hy hF
    exact ⟨c, v, q1, q2, q3, cellK q4⟩
  · refine ⟨⟨_, _, rfl⟩, .refl _, fun _ _ e e' => (by rw [e] at e'; cases e'), fun b x vs e d _ => (hs.2 b ?_).trans e, tabs_same hs fun y e => (by rw [ho] at e; cases e; exact fun ⟨_, vs, q⟩ => hf vs q), fun _ _ _ _ e e' => (by rw [e] at e'; cases e')⟩
    rintro rfl
    rw [ho] at e; cases e; exact hf _ d
noncomputable def soleOwn (x : Str) (ρ : PEnv) : Bool := ρ.all fun p => p.1 == x || !p.2.isOwn
noncomputable def soleOwnD (x : Str) (ρ : PEnv) : Bool := ρ.all fun p => p.1 == x || !p.2.isOwnD
theorem soleOwn_not {x y : Str} {sl : Slot} (h : soleOwn x ρ = true) (hy : y ≠ x) (hl : ρ.lookup y = some sl) : sl.isOwn = false := by
  have := List.all_eq_true.mp h _ (mem_of_lookup hl)
  simp [hy] at this
  exact this
theorem soleOwnD_not {x y : Str} {sl : Slot} (h : soleOwnD x ρ = true) (hy : y ≠ x) (hl : ρ.lookup y = some sl) : sl.isOwnD = false := by
  have := List.all_eq_true.mp h _ (mem_of_lookup hl)
  simp [hy] at this
  exact this
theorem PreS.putList {x : Str} {a : Addr} {vs vs' : List Value} {n n' : Nat} {xs' : List PV} {h' : Heap} {tk : Nat} (p : PreS Z0 S Z env ρ s) (h1 : Holds s.heap env x (.ref a)) (ho : s.heap.get? a = some (listObj vs n)) (hz : Z a = none) (hS : S a = none)
    (hs : Heap.SameBut a s.heap h') (ho' : h'.get? a = some (listObj vs' n')) (hr : RepL Z vs' xs') (so : soleOwn x ρ = true) :
    PreS Z0 S Z env ((x, .own xs') :: ρ) { s with heap := h', toks := tk } ∧ Stp S Z s { s with heap := h', toks := tk } Z := by
  refine p.put h1 ho (fun _ e => nomatch e) (fun _ e => nomatch e) ?_ hz hS hs ⟨a, vs', n', rfl, ho', hr, hz, hS⟩ fun y u sl hy hl q => ?_
  · rintro rfl
    obtain ⟨m, o, es, ep, ho2, hd, _⟩ := p.ns
    rw [ho] at ho2; cases ho2; cases hd
  · have := soleOwn_not so hy hl
    cases sl with
    | fz d => exact q
    | own xs => cases this
    | ownD ks ds =>
      obtain ⟨b, o, us, q1, q2, q3, q4⟩ := q
      have : b ≠ a := by rintro rfl; rw [ho] at q2; cases q2; obtain ⟨es, ep, _, hd, _⟩ := q3; cases hd
      exact ⟨b, o, us, q1, (hs.2 b this).trans q2, q3, q4⟩
theorem PreS.putDict {x : Str} {a : Addr} {o o' : Obj} {kvs : List (Int × Value)} {ks : List Int} {vs : List Value} {ds : List PV} {h' : Heap} {tk : Nat} (p : PreS Z0 S Z env ρ s) (h1 : Holds s.heap env x (.ref a)) (ho : s.heap.get? a = some o) (hd : IDict o kvs) (hL : a ≠ env.locals) (hz : Z a = none) (hS : S a = none)
    (hs : Heap.SameBut a s.heap h') (ho' : h'.get? a = some o') (hd' : IDict o' (ks.zip vs)) (hl' : vs.length = ks.length) (hr : RepL Z vs ds) (so : soleOwnD x ρ = true) :
    PreS Z0 S Z env ((x, .ownD ks ds) :: ρ) { s with heap := h', toks := tk } ∧ Stp S Z s { s with heap := h', toks := tk } Z := by
  obtain ⟨es, ep, hE, hdd, _⟩ := id hd
  refine p.put h1 ho (fun _ e => by rw [hdd] at e; cases e) (fun _ e => by rw [hdd] at e; cases e) hL hz hS hs ⟨a, o', vs, rfl, ho', hd', hl', hr, hz, hS, hL⟩ fun y u sl hy hl q => ?_
  have := soleOwnD_not so hy hl
  cases sl with
  | fz d => exact q
  | ownD ks ds => cases this
  | own xs =>
    obtain ⟨b, us, m, q1, q2, q3⟩ := q
    have : b ≠ a := by rintro rfl; rw [ho] at q2; cases q2; cases hdd
    exact ⟨b, us, m, q1, (hs.2 b this).trans q2, q3⟩
/-- a name read, whatever it holds -/
theorem Pre.read {x : Str} {pos : Pos} {v : Value} {A : Around} {E : Value → Shared → Prop} {Q : Value → Shared → Prop} (p : Pre Z0 S Z env ρ s) (h1 : Holds s.heap env x v) (hQ : Q v s) (hd : (x == ("__debug__" : Str)) = false := by decide) (hn : (x == ("__classdict__" : Str)) = false := by decide) :
    wpAny (model prog w) A (eval (.Name x pos) env) Q E s := by
  refine wpAny_Name ?_ hd
  rcases h1 with ⟨hk, m, hm, hv⟩ | ⟨hk | hk, c, hc, hv⟩
  · exact wpAny_loadName_local p.kind hk hm hv hQ
  · exact wpAny_loadName_cell p.kind hk hc hv hQ
  · exact wpAny_loadName_free p.kind hk hc hv hQ hn
theorem X1.append {x : Str} {np ap cp pos : Pos} {e : Expr} {d : PV} {xs : List PV} (hx : ρ.lookup x = some (.own xs)) (h : Ev prog w Z0 k env ρ e d) (hz : xs.length ≤ 1000) (so : soleOwn x ρ = true := by rfl) (hd : (x == ("__debug__" : Str)) = false := by decide) (hn : (x == ("__classdict__" : Str)) = false := by decide)
    (hbase : attributeBase (.Name x np) "append" env (eval (.Name x np) env) = eval (.Name x np) env := by rfl)
    (hfew : ((backTo cp (starEach [e] env)).all (fun x => !x.1) && (backToKw cp (keywordEach [] env)).all (fun x => x.1.isSome) && decide (([e] : List Expr).length + ([] : List Keyword).length + (if ([] : List Keyword).isEmpty then 0 else 1) < 30)) = true := by rfl)
    (hline : (ap.endLine == cp.line) = true := by rfl) (htrees : backTo cp (starEach [e] env) = [(false, eval e env)] := by rfl) (hi : interactive env = false := by rfl) (hs : swapsWith (.Call (.Attribute (.Name x np) "append" ap) [e] [] cp) none pos.line env = pure false := by rfl) :
    X1 prog w Z0 k env ρ (.Expr (.Call (.Attribute (.Name x np) "append" ap) [e] [] cp) pos) ((x, .own (xs ++ [d])) :: ρ) := fun S Z s A E r p => by
  obtain ⟨v, h1, a, vs, n, rfl, ha, hr, hZ, hS⟩ := p.vars x _ hx
  refine wpAny_Expr_any (wpAny_Call_append hbase hfew hline htrees (p.toPre.read h1 ⟨a, vs.toArray, rfl, ⟨_, n, ha, rfl, rfl, rfl⟩, ?_⟩ hd hn)) hi hs
  refine wpAny_mono (h S Z s A E r p.toPre) (fun y s₁ q => ?_) fun _ _ x => x
  obtain ⟨Z₁, e₁, r₁⟩ := q
  have p₁ := p.ext e₁
  have ha₁ := e₁.keep _ _ ha (Tb.seq rfl)
  refine wpAny_list_append_plain ⟨n, ha₁⟩ (fun h' ⟨n', hp⟩ hs' => ?_) (by rw [List.size_toArray, sizeLine_eq, hr.length]; (first | exact ar7 hz | (first | lia | omega)))
  have := p₁.putList (x := x) (tk := s₁.toks) (vs' := vs ++ [y]) (n' := n') (xs' := xs ++ [d]) (h1.keeps e₁.keep) ha₁ (e₁.off ha hZ) hS hs' (by simpa [listObj] using hp) ((hr.mono e₁.le).append (.one r₁)) so
  exact ⟨rfl, Z₁, (e₁.stp p.snap).trans this.2, this.1⟩
/-- item assignment from the end -/
theorem setItem_neg {l : Addr} {vs : List Value} {n : Nat} {i : Int} {t : Tok} {v : Value} {A : Around} {E : Value → Shared → Prop} {Q : Unit → Shared → Prop} (ho : s.heap.get? l = some (listObj vs n)) (h0 : i < 0) (h1 : -(vs.length : Int) ≤ i) (hz : vs.length ≤ 100000)
    (hQ : ∀ h' n', h'.get? l = some (listObj (vs.set (i + vs.length).toNat v) n') → Heap.SameBut l s.heap h' → Q () { s with heap := h' }) : wpAny (model prog w) A (setItem (.ref l) (.int i t) v) Q E s := by
  have hl : s.heap.IsList l vs.toArray := listObj_isList ho
  unfold setItem
  try with_reducible refine wpAny_holding ?_
  first | refine wpAny_bind (wpAny_pure ?_) | skip
  refine wpAny_bind (wpAny_sequenceKey hl.typeIs (by decide) ?_)
  refine wpAny_bind (wpAny_callSpecial?_slot (name := Str.ofString "__setitem__") hl.typeIs slot_list_setitem
    (wpAny_call_entry slot_list_setitem hl.typeIs entry_list_setitem ?_ (args_list_setitem _ _ _)))
  show wpAny _ _ (Builtin.List.listSubscript? (.int i t) >>= _) _ _ s
  refine wpAny_bind (wpAny_listSubscript_int (fitsIndex_neg h0 (by (first | exact ar11 h1 hz | (first | lia | omega)))) ?_)
  have hidx : seqIndex? i vs.length = some (i + vs.length).toNat := seqIndex_neg h0 h1
  obtain ⟨j, rfl⟩ : ∃ j : Nat, i = Int.negSucc j := by
    cases i with
    | ofNat n => exact absurd h0 (Int.not_lt.mpr (Int.ofNat_nonneg n))
    | negSucc n => exact ⟨n, rfl⟩
  show wpAny _ _ ((Builtin.List.listItems (.ref l) >>= fun xs => pure ((seqIndex? (Int.negSucc j) xs.size).bind fun i => xs[i]?.map (i, ·))) >>= _) _ _ s
  refine wpAny_bind (wpAny_bind ?_)
  show wpAny _ _ (seqItems? (.ref l) >>= _) _ _ s
  refine wpAny_bind (wpAny_seqItems ho rfl (wpAny_pure (wpAny_pure ?_)))
  have hj : (Int.negSucc j + vs.length).toNat < vs.length := by (first | exact ar45 h0 h1 | (first | lia | omega))
  have hx : vs.toArray[(Int.negSucc j + (vs.length : Int)).toNat]? = some (vs[(Int.negSucc j + (vs.length : Int)).toNat]) := by simp [List.getElem?_eq_getElem hj]
  simp only [List.size_toArray, hidx, Option.bind_some, hx, Option.map_some]
  generalize hm : (Int.negSucc j + (vs.length : Int)).toNat = m at *
  show wpAny _ _ (setSeqItemAt l m v >>= _) _ _ s
  refine wpAny_bind (wpAny_setSeqItemAt ho rfl ?_)
  refine wpAny_bind (wpAny_pure (wpAny_pure ⟨.none, rfl, wpAny_pure (hQ _ n ?_ (Heap.SameBut.update ..))⟩))
  rw [Heap.get?_update_self _ ho (by simp [Obj.mapSeq, listObj]; rfl)]
  simp [Obj.mapSeq, listObj]
end
end Mq
set_option tactic.hygienic false
namespace Mq
open PySem PySem.Spec PySem.Calls PyProof.Rows PySem.W
variable {prog : Program} {w : World} {Z0 : Fz} {k : Nat} {mg mb : Str → Option Value}
section
variable {S Z Z' : Fz} {env : Env} {ρ ρ₁ : PEnv} {s s' : Shared}
theorem Ev.neg1 {i : Int} {kk : Nat} {cp pos : Pos} : Ev prog w Z0 k env ρ (.UnaryOp .USub (.Constant (.int i) kk cp) pos) (.int (-i)) := fun S Z s A E r p =>
  wpAny_UnaryOp (wpAny_Constant_int (by exact PySem.P.neg_int ⟨Z, .toks p.fin, .int _ _⟩))
theorem X1.setOwn {x : Str} {np ip pos : Pos} {ie e : Expr} {i : Int} {d : PV} {xs : List PV} (hx : ρ.lookup x = some (.own xs)) (h : Ev prog w Z0 k env ρ e d) (hie : Ev prog w Z0 k env ρ ie (.int i)) (h0 : i < 0) (h1 : -(xs.length : Int) ≤ i) (hz : xs.length ≤ 1000)
    (so : soleOwn x ρ = true := by rfl) (hd : (x == ("__debug__" : Str)) = false := by decide) (hn : (x == ("__classdict__" : Str)) = false := by decide) (hs : swapsWith e (some (.Subscript (.Name x np) ie ip)) pos.line env = pure false := by rfl) :
    X1 prog w Z0 k env ρ (.Assign [.Subscript (.Name x np) ie ip] e pos) ((x, .own (xs.set (i + xs.length).toNat d)) :: ρ) := fun S Z s A E r p => by
  refine wpAny_Assign_Subscript (wpAny_mono (h S Z s A E r p.toPre) (fun y s₁ q => ?_) fun _ _ x => x) hs
  obtain ⟨Z₁, e₁, r₁⟩ := q
  have p₁ := p.ext e₁
  obtain ⟨v, q1, a, vs, n, rfl, ha, hr, hZ, hS⟩ := p₁.vars x _ hx
  refine p₁.toPre.read q1 ?_ hd hn
  refine wpAny_mono (hie S Z₁ s₁ A E r p₁.toPre) (fun j s₂ q => ?_) fun _ _ x => x
  obtain ⟨Z₂, e₂, r₂⟩ := q
  obtain ⟨t, rfl⟩ := r₂.isInt
  have p₂ := p₁.ext e₂
  have ha₂ := e₂.keep _ _ ha (Tb.seq rfl)
  have hlen := hr.length
  refine setItem_neg ha₂ h0 (by (first | exact ar10 h1 hlen | (first | lia | omega))) (by (first | exact ar46 hz hlen | (first | lia | omega))) fun h' n' ho' hs' => ?_
  have := p₂.putList (x := x) (tk := s₂.toks) (vs' := vs.set (i + vs.length).toNat y) (n' := n') (xs' := xs.set (i + xs.length).toNat d) (q1.keeps e₂.keep) ha₂ (e₂.off ha hZ) hS hs' ho' ?_ so
  · exact ⟨rfl, Z₂, ((e₁.trans e₂).stp p.snap).trans this.2, this.1⟩
  · rw [hlen]
    refine .of_get (by simp [hlen]) fun m u c hu hc => ?_
    by_cases hm : (i + (xs.length : Int)).toNat = m
    · subst hm
      have hlt : (i + (xs.length : Int)).toNat < xs.length := by (first | exact ar45 h0 h1 | (first | lia | omega))
      rw [List.getElem?_set_self (by (first | exact ar47 h0 h1 hlen | exact ar45 h0 h1 | (first | lia | omega)))] at hu hc
      cases hu; cases hc
      exact r₁.mono e₂.le
    · rw [List.getElem?_set_ne hm] at hu hc
      obtain ⟨c', hc', rc⟩ := hr.get hu
      rw [hc] at hc'; cases hc'
      exact rc.mono e₂.le
/-- an own list is let stand still -/
theorem SlotIs.add {a : Addr} {o : Obj} {v : Value} {sl : Slot} {L : Addr} {h : Heap} {vs : Array Value} {n : Nat} (ho : h.get? a = some o) (hd : o.data = .seq vs n) (hz : Z a = none) (hno : sl.isOwn = false) (x : SlotIs S Z h L v sl) : SlotIs S (Z.add a o) h L v sl := by
  cases sl with
  | fz d => exact Rep.mono (Fz.le_add hz) x
  | own xs => cases hno
  | ownD ks ds =>
    obtain ⟨b, o', us, q1, q2, q3, q4, q5, q6, q7⟩ := x
    refine ⟨b, o', us, q1, q2, q3, q4, q5.mono (Fz.le_add hz), ?_, q7⟩
    have : b ≠ a := by rintro rfl; rw [ho] at q2; cases q2; obtain ⟨es, ep, _, hdd, _⟩ := q3; rw [hd] at hdd; cases hdd
    simp [Fz.add, this, q6]
theorem Pre.freeze {x : Str} {xs : List PV} (p : Pre Z0 S Z env ρ s) (hx : ρ.lookup x = some (.own xs)) (so : soleOwn x ρ = true) :
    ∃ a vs n, Z a = none ∧ S a = none ∧ s.heap.get? a = some (listObj vs n) ∧ Pre Z0 S (Z.add a (listObj vs n)) env ((x, .fz (.list xs)) :: ρ) s := by
  obtain ⟨v, h1, a, vs, n, rfl, ha, hr, hZ, hS⟩ := p.vars x _ hx
  refine ⟨a, vs, n, hZ, hS, ha, p.base.trans (Fz.le_add hZ), p.fin.add ha (Tb.seq rfl), p.snap, p.kind, p.gl, p.bl, p.ns, fun y sl hy => ?_⟩
  by_cases hyx : y = x
  · subst hyx
    simp at hy
    subst hy
    exact ⟨_, h1, .list (Fz.add_self ..) rfl rfl rfl (hr.mono (Fz.le_add hZ))⟩
  · rw [lookup_cons_ne hyx] at hy
    obtain ⟨u, q1, q2⟩ := p.vars y sl hy
    exact ⟨u, q1, q2.add ha rfl hZ (soleOwn_not so hyx hy)⟩
theorem PreS.freeze {x : Str} {xs : List PV} (p : PreS Z0 S Z env ρ s) (hx : ρ.lookup x = some (.own xs)) (so : soleOwn x ρ = true) :
    ∃ Z', Stp S Z s s Z' ∧ PreS Z0 S Z' env ((x, .fz (.list xs)) :: ρ) s := by
  obtain ⟨a, vs, n, hZ, hS, ha, q⟩ := p.toPre.freeze hx so
  refine ⟨_, ⟨⟨_, _, rfl⟩, Fz.le_add hZ, fun b o e e' => ?_, fun _ _ _ e _ _ => e, fun _ _ e _ => .inl e, fun b o o₀ us e e' h _ => ?_⟩, q, p.SL, ?_, fun y hy hF => ?_, p.apart⟩
  · rcases Fz.add_cases e with ⟨rfl, rfl⟩ | e
    · exact hS
    · rw [e'] at e; cases e
  · rcases Fz.add_cases e with ⟨rfl, rfl⟩ | e
    · rw [ha] at h; cases h; exact fun q => nomatch q
    · rw [e'] at e; cases e
  · obtain ⟨m, o, es, ep, ho2, hd, _⟩ := p.ns
    have : env.locals ≠ a := by rintro rfl; rw [ha] at ho2; cases ho2; cases hd
    simp [Fz.add, this, p.ZL]
  · obtain ⟨c, v, q1, q2, q3, q4⟩ := p.cells y hy hF
    have : c ≠ a := by rintro rfl; obtain ⟨o, ho, hd⟩ := q4; rw [ha] at ho; cases ho; cases hd
    exact ⟨c, v, q1, q2, by simp [Fz.add, this, q3], q4⟩
theorem Bd.freeze {x : Str} {xs : List PV} {st : List Stmt} {d : PV} (hx : ρ.lookup x = some (.own xs)) (h : Bd prog w Z0 k env ((x, .fz (.list xs)) :: ρ) st d) (so : soleOwn x ρ = true := by rfl) : Bd prog w Z0 k env ρ st d := fun S Z s A E r p => by
  obtain ⟨Z', st', p'⟩ := p.freeze hx so
  refine wpAny_mono (h S Z' s A E r p') (fun f s₁ q => ?_) fun _ _ x => x
  obtain ⟨v, Z₂, rfl, e₂, q1, q2, q3⟩ := q
  exact ⟨v, Z₂, rfl, st'.trans e₂, q1, q2, q3⟩
theorem Ex.freeze {x : Str} {xs : List PV} {st : List Stmt} (hx : ρ.lookup x = some (.own xs)) (h : Ex prog w Z0 k env ((x, .fz (.list xs)) :: ρ) st ρ₁) (so : soleOwn x ρ = true := by rfl) : Ex prog w Z0 k env ρ st ρ₁ := fun S Z s A E r p => by
  obtain ⟨Z', st', p'⟩ := p.freeze hx so
  refine wpAny_mono (h S Z' s A E r p') (fun f s₁ q => ?_) fun _ _ x => x
  obtain ⟨rfl, Z₂, e₂, q⟩ := q
  exact ⟨rfl, Z₂, st'.trans e₂, q⟩
/-- back from what stood still for a while -/
theorem Ext.thaw {a : Addr} {o : Obj} {Z₂ : Fz} (e : Ext s (Z.add a o) s' Z₂) (hz : Z a = none) : Ext s Z s' (fun b => if b = a then none else Z₂ b) := by
  refine ⟨e.same, e.old, fun b x q => ?_, fun b x q => ?_, fun b x q q' => ?_⟩
  · have : b ≠ a := by rintro rfl; rw [hz] at q; cases q
    simp only [this, if_false]
    exact e.le b x (Fz.le_add hz b x q)
  · by_cases h : b = a
    · simp [h] at q
    · simp only [h, if_false] at q; exact e.fin b x q
  · by_cases h : b = a
    · simp [h] at q
    · simp only [h, if_false] at q; exact e.fresh b x q (by simp [Fz.add, h, q'])
theorem Tr.own {x : Str} {xs : List PV} {e : Expr} {b : Bool} (hx : ρ.lookup x = some (.own xs)) (h : Tr prog w Z0 k env ((x, .fz (.list xs)) :: ρ) e b) (so : soleOwn x ρ = true := by rfl) : Tr prog w Z0 k env ρ e b := fun S Z s A E r p => by
  obtain ⟨a, vs, n, hZ, hS, ha, p'⟩ := p.freeze hx so
  refine wpAny_mono (h S _ s A E r p') (fun c s₁ q => ?_) fun _ _ x => x
  obtain ⟨rfl, Z₂, e₂⟩ := q
  exact ⟨rfl, _, e₂.thaw hZ⟩
theorem Ev.own {x : Str} {xs : List PV} {e : Expr} {i : Int} (hx : ρ.lookup x = some (.own xs)) (h : Ev prog w Z0 k env ((x, .fz (.list xs)) :: ρ) e (.int i)) (so : soleOwn x ρ = true := by rfl) : Ev prog w Z0 k env ρ e (.int i) := fun S Z s A E r p => by
  obtain ⟨a, vs, n, hZ, hS, ha, p'⟩ := p.freeze hx so
  refine wpAny_mono (h S _ s A E r p') (fun c s₁ q => ?_) fun _ _ x => x
  obtain ⟨Z₂, e₂, r₂⟩ := q
  obtain ⟨t, rfl⟩ := r₂.isInt
  exact ⟨_, e₂.thaw hZ, .int _ _⟩
/-- an item of an own list, from the end -/
theorem Ev.ownItem {x : Str} {np pos : Pos} {ie : Expr} {i : Int} {d : PV} {xs : List PV} (hx : ρ.lookup x = some (.own xs)) (hie : Ev prog w Z0 k env ρ ie (.int i)) (h0 : i < 0) (h1 : -(xs.length : Int) ≤ i) (hi : xs[(i + xs.length).toNat]? = some d) (hz : xs.length ≤ 1000)
    (hs : ∀ o j, subscripted ie false (.ref o) j = operate [.ref o, j] (getItem (.ref o) j) := by intro _ _; with_unfolding_all rfl) (hd : (x == ("__debug__" : Str)) = false := by decide) (hn : (x == ("__classdict__" : Str)) = false := by decide) :
    Ev prog w Z0 k env ρ (.Subscript (.Name x np) ie pos) d := fun S Z s A E r p => by
  obtain ⟨v, q1, a, vs, n, rfl, ha, hr, hZ, hS⟩ := p.vars x _ hx
  refine Subscript_ (p.read q1 ?_ hd hn)
  refine wpAny_mono (hie S Z s A E r p) (fun j s₂ q => ?_) fun _ _ x => x
  obtain ⟨Z₂, e₂, r₂⟩ := q
  obtain ⟨t, rfl⟩ := r₂.isInt
  have hl := listObj_isList (e₂.keep _ _ ha (Tb.seq rfl))
  obtain ⟨y, hy, ry⟩ := hr.get' hi
  have := hr.length
  exact tail_any hl.typeIs slot_list_getitem.lookup (wpAny_getItem_list_neg hl h0 (by simp only [List.size_toArray]; (first | exact ar10 h1 this | (first | lia | omega))) (by (first | exact ar48 h1 hz | (first | lia | omega))) (by simpa [this] using hy) ⟨Z₂, e₂, ry.mono e₂.le⟩) (hs _ _)
/-- x += e over ints -/
theorem X1.augInt {x : Str} {np pos : Pos} {e : Expr} {i j : Int} (hx : ρ.lookup x = some (.fz (.int i))) (h : Ev prog w Z0 k env ρ e (.int j)) (hk : env.kindOf x = some .local) :
    X1 prog w Z0 k env ρ (.AugAssign (.Name x np) .Add e pos) ((x, .fz (.int (i + j))) :: ρ) := fun S Z s A E r p => by
  obtain ⟨v, h1, h2⟩ := p.vars x _ hx
  obtain ⟨t, rfl⟩ := Rep.isInt h2
  have ld : ∀ {Q : Value → Shared → Prop} {E : Value → Shared → Prop}, Q (.int i t) s → wpAny (model prog w) A (loadName env x) Q E s := fun hQ => by
    rcases h1 with ⟨hk, m, hm, hv⟩ | ⟨hk' | hk', c, hc, hv⟩
    · exact wpAny_loadName_local p.kind hk hm hv hQ
    · rw [hk] at hk'; cases hk'
    · rw [hk] at hk'; cases hk'
  refine wpAny_AugAssign_Name (ld (wpAny_mono (h S Z s A E r p.toPre) (fun y s₁ q => ?_) fun _ _ x => x))
  obtain ⟨Z₁, e₁, r₁⟩ := q
  obtain ⟨t', rfl⟩ := r₁.isInt
  refine PyProof.Rows.iadd_int ?_
  have e₂ : Ext s₁ Z₁ { s₁ with toks := s₁.toks + 1 } Z₁ := .toks e₁.fin
  exact ((p.ext e₁).ext e₂).store (sl := .fz (.int (i + j))) (.inl hk) (.int _ _) fun s' e' p' _ => ⟨rfl, Z₁, ((e₁.trans e₂).stp p.snap).trans e', p'⟩
end
end Mq
set_option tactic.hygienic false
namespace Mq
open PySem PySem.Spec PySem.Calls PyProof.Rows PySem.W
variable {prog : Program} {w : World} {Z0 : Fz} {k : Nat} {mg mb : Str → Option Value}
/-- all but a few places stand -/
structure Mv (Xs : List Addr) (s : Shared) (Z : Fz) (s' : Shared) (Z' : Fz) : Prop where
  same : ∃ h' tk, s' = { s with heap := h', toks := tk }
  old : ∀ b o, b ∉ Xs → s.heap.get? b = some o → s'.heap.get? b = some o ∨ (Tab3 b ∧ ∃ vs more : Array Value, o = X.tableObj vs ∧ s'.heap.get? b = some (X.tableObj (vs ++ more)))
  there : ∀ b o, s.heap.get? b = some o → ∃ o', s'.heap.get? b = some o'
  le : LeZ Z Z'
  fin : InH Z' s'.heap
  fresh : ∀ a o, Z' a = some o → Z a = none → s.heap.get? a = none
section
variable {X Y : List Addr} {s s₁ s₂ : Shared} {Z Z₁ Z₂ : Fz}
theorem Old.there {h h' : Heap} (x : Old h h') {b : Addr} {o : Obj} (e : h.get? b = some o) : ∃ o', h'.get? b = some o' := by
  rcases x b o e with q | ⟨_, _, _, _, q⟩ <;> exact ⟨_, q⟩
theorem Ext.mv (e : Ext s Z s₁ Z₁) : Mv X s Z s₁ Z₁ := ⟨e.same, fun b o _ q => e.old b o q, fun b o q => e.old.there q, e.le, e.fin, e.fresh⟩
theorem Mv.ext (m : Mv X s Z s₁ Z₁) (hX : ∀ b ∈ X, s.heap.get? b = none) : Ext s Z s₁ Z₁ :=
  ⟨m.same, fun b o q => m.old b o (fun hb => by rw [hX b hb] at q; cases q) q, m.le, m.fin, m.fresh⟩
theorem Mv.sub (m : Mv X s Z s₁ Z₁) (hX : ∀ b ∈ X, b ∈ Y ∨ s.heap.get? b = none) : Mv Y s Z s₁ Z₁ :=
  ⟨m.same, fun b o hb q => m.old b o (fun hb' => by rcases hX b hb' with h | h; exact hb h; rw [h] at q; cases q) q, m.there, m.le, m.fin, m.fresh⟩
theorem Mv.refl (h : InH Z s.heap) : Mv X s Z s Z := (Ext.refl h).mv
theorem Mv.gone (m : Mv X s Z s₁ Z₁) {a : Addr} (e : s₁.heap.get? a = none) : s.heap.get? a = none := by
  cases q : s.heap.get? a with
  | none => rfl
  | some o => obtain ⟨o', q'⟩ := m.there a o q; rw [e] at q'; cases q'
theorem Mv.trans (x : Mv X s Z s₁ Z₁) (y : Mv X s₁ Z₁ s₂ Z₂) : Mv X s Z s₂ Z₂ := by
  refine ⟨?_, fun b o hb e => ?_, fun b o e => let ⟨o', e'⟩ := x.there b o e; y.there b o' e', x.le.trans y.le, y.fin, fun a o e e' => ?_⟩
  · obtain ⟨h, t, rfl⟩ := x.same; obtain ⟨h', t', rfl⟩ := y.same; exact ⟨_, _, rfl⟩
  · rcases x.old b o hb e with e₁ | ⟨t, vs, more, rfl, e₁⟩
    · exact y.old b o hb e₁
    · rcases y.old b _ hb e₁ with e₂ | ⟨_, vs', more', q, e₂⟩
      · exact .inr ⟨t, vs, more, rfl, e₂⟩
      · refine .inr ⟨t, vs, more ++ more', rfl, ?_⟩
        have : vs' = vs ++ more := by injection q with _ _ q _; injection q with q; exact q.symm
        rw [e₂, this, Array.append_assoc]
  · cases q : Z₁ a with
    | none => exact x.gone (y.fresh a o e q)
    | some o' => exact x.fresh a o' q e'
theorem Mv.keep (m : Mv X s Z s₁ Z₁) {b : Addr} {o : Obj} (hb : b ∉ X) (e : s.heap.get? b = some o) (n : ¬ Tb o) : s₁.heap.get? b = some o := by
  rcases m.old b o hb e with q | ⟨_, vs, _, rfl, _⟩
  · exact q
  · exact absurd (Tb.table vs) n
theorem Mv.off (m : Mv X s Z s₁ Z₁) {b : Addr} {o : Obj} (e : s.heap.get? b = some o) (hz : Z b = Option.none) : Z₁ b = Option.none := by
  cases q : Z₁ b with
  | none => rfl
  | some y => rw [m.fresh b y q hz] at e; cases e
theorem Mv.same1 {a : Addr} {h' : Heap} {tk : Nat} (hs : ∀ b x, b ≠ a → s.heap.get? b = some x → h'.get? b = some x) (ha : ∃ o, h'.get? a = some o) (hi : InH Z s.heap) (hz : Z a = Option.none) (hX : a ∈ X) : Mv X s Z { s with heap := h', toks := tk } Z :=
  ⟨⟨_, _, rfl⟩, fun b o hb e => .inl (hs b o (fun q => hb (q ▸ hX)) e), fun b o e => (by
    by_cases q : b = a
    · subst q; exact ha
    · exact ⟨o, hs b o q e⟩), .refl _, hi.but hz hs, fun _ _ e e' => (by rw [e] at e'; cases e')⟩
end
/-- names taken over from the frame around -/
noncomputable def Cap (env cenv : Env) (ρ ρc : PEnv) : Prop := ∀ y sl, ρc.lookup y = some sl → ∃ d, sl = .fz d ∧ ρ.lookup y = some (.fz d) ∧ (cenv.kindOf y = some .cell ∨ cenv.kindOf y = some .free) ∧ (env.kindOf y = some .cell ∨ env.kindOf y = some .free) ∧ cenv.cells.lookup y = env.cells.lookup y
theorem Cap.nil {env cenv : Env} {ρ : PEnv} : Cap env cenv ρ [] := fun y sl h => by simp at h
theorem Cap.cons {env cenv : Env} {ρ ρc : PEnv} {x : Str} {d : PV} (h : Cap env cenv ρ ρc) (hx : ρ.lookup x = some (.fz d)) (h1 : cenv.kindOf x = some .cell ∨ cenv.kindOf x = some .free) (h2 : env.kindOf x = some .cell ∨ env.kindOf x = some .free) (h3 : cenv.cells.lookup x = env.cells.lookup x) :
    Cap env cenv ρ ((x, .fz d) :: ρc) := fun y sl hy => by
  by_cases q : y = x
  · subst q; simp at hy; subst hy; exact ⟨d, rfl, hx, h1, h2, h3⟩
  · rw [lookup_cons_ne q] at hy; exact h y sl hy
/-- all that stands but one namespace -/
noncomputable def snapC (C : Addr) (h : Heap) : Fz := fun a => if a = C then none else snapZ h a
theorem snapC_in (C : Addr) (h : Heap) : InH (snapC C h) h := fun a o e => by
  unfold snapC at e
  split at e
  · cases e
  · exact snapZ_in h a o e
theorem snapC_some {C : Addr} {h : Heap} {a : Addr} {o : Obj} (ha : a ≠ C) (e : h.get? a = some o) (t : ¬ Tb o) : snapC C h a = some o := by simp [snapC, ha, snapZ_some e t]
/-- the comprehension's frame -/
theorem compPre {S Z Z' : Fz} {env cenv : Env} {ρ ρc : PEnv} {s s' : Shared} {X : List Addr} (p : Pre Z0 S Z env ρ s) (m : Mv X s Z s' Z') (hX : ∀ b ∈ X, s.heap.get? b = none) (hc : Cap env cenv ρ ρc) (hk : cenv.scope.kind = .function) (hg : cenv.globals = env.globals) (hb : cenv.builtins = env.builtins)
    (hf : cenv.func = none) (hn : ∃ m, s'.heap.Ns cenv.locals m) (hz : Z' cenv.locals = none) : PreS Z0 (snapC cenv.locals s'.heap) Z' cenv ρc s' := by
  have e := m.ext hX
  refine ⟨⟨p.base.trans m.le, m.fin, snapC_in _ _, hk, hg.trans p.gl, hb.trans p.bl, hn, fun y sl hy => ?_⟩, by simp [snapC], hz, fun _ _ h => (by rw [hf] at h; cases h), fun _ _ _ _ h => (by rw [hf] at h; cases h)⟩
  obtain ⟨d, rfl, h1, h2, h3, h4⟩ := hc y sl hy
  obtain ⟨v, q1, q2⟩ := p.vars y _ h1
  refine ⟨v, ?_, Rep.mono m.le q2⟩
  rcases q1 with ⟨a, _⟩ | ⟨_, c, l, q⟩
  · rcases h3 with h3 | h3 <;> (rw [h3] at a; cases a)
  · exact .inr ⟨h2, c, h4.trans l, IsCell_keeps e.keep q⟩
/-- what a target's store leaves -/
theorem Stp.mv {Z Z₁ : Fz} {C : Addr} {s s₁ : Shared} {env : Env} {ρ : PEnv} (hC : env.locals = C) (st : Stp (snapC C s.heap) Z s s₁ Z₁) (p : PreS Z0 (snapC C s.heap) Z₁ env ρ s₁) : Mv [C] s Z s₁ Z₁ := by
  subst hC
  refine ⟨st.same, fun b o hb e => ?_, fun b o e => ?_, st.le, p.fin, fun a o e e' => ?_⟩
  · by_cases t : Tb o
    · exact st.tabs b o e t
    · exact .inl (p.snap.get (snapC_some (by simpa using hb) e t))
  · by_cases hb : b = env.locals
    · obtain ⟨m, o', _, _, ho, _⟩ := p.ns
      exact ⟨o', hb ▸ ho⟩
    · by_cases t : Tb o
      · rcases st.tabs b o e t with q | ⟨_, _, _, _, q⟩ <;> exact ⟨_, q⟩
      · exact ⟨o, p.snap.get (snapC_some hb e t)⟩
  · have hn := st.fresh a o e e'
    have ha : a ≠ env.locals := by rintro rfl; rw [p.ZL] at e; cases e
    cases q : s.heap.get? a with
    | none => rfl
    | some y =>
      by_cases t : Tb y
      · rcases st.tabs a y q t with q' | ⟨_, _, _, _, q'⟩
        · rw [p.fin.get e] at q'; cases q'; exact absurd t (p.fin.nt e)
        · rw [p.fin.get e] at q'; cases q'; exact absurd (Tb.table _) (p.fin.nt e)
      · rw [snapC_some ha q t] at hn; cases hn
/-- tests in a row -/
noncomputable def Trs (prog : Program) (w : World) (Z0 : Fz) (k : Nat) (env : Env) (ρ : PEnv) (ifs : List Expr) (b : Bool) : Prop :=
  ∀ (S Z : Fz) (s : Shared) (A : Around) (E : Value → Shared → Prop), Room A k → Pre Z0 S Z env ρ s →
    wpAny (model prog w) A (forIn ifs true fun c r => if r = true then do let ok ← isTrue c env (eval c env); pure (ForInStep.yield ok) else pure (ForInStep.yield r)) (PostB s Z b) E s
theorem Trs.nil {env : Env} {ρ : PEnv} : Trs prog w Z0 k env ρ [] true := fun S Z s A E r p => wpAny_tests_nil ⟨rfl, Z, .refl p.fin⟩
theorem Trs.one {env : Env} {ρ : PEnv} {c : Expr} {b : Bool} (h : Tr prog w Z0 k env ρ c b) : Trs prog w Z0 k env ρ [c] b := fun S Z s A E r p => wpAny_tests_one (h S Z s A E r p)
theorem Mv.but {X : List Addr} {s s₁ : Shared} {Z Z₁ : Fz} {I : Addr} {h' : Heap} {tk : Nat} (m : Mv X s Z s₁ Z₁) (hI : s.heap.get? I = none) (hz : Z₁ I = none) (k : ∀ b x, b ≠ I → s₁.heap.get? b = some x → h'.get? b = some x) : Mv X s Z { s₁ with heap := h', toks := tk } Z₁ := by
  have ne : ∀ b o, s.heap.get? b = some o → b ≠ I := by rintro b o e rfl; rw [hI] at e; cases e
  refine ⟨?_, fun b o hb e => ?_, fun b o e => let ⟨o', q⟩ := m.there b o e; ⟨o', k _ _ (ne b o e) q⟩, m.le, m.fin.but hz k, m.fresh⟩
  · obtain ⟨h, t, rfl⟩ := m.same; exact ⟨_, _, rfl⟩
  · rcases m.old b o hb e with q | ⟨t3, us, more, rfl, q⟩
    · exact .inl (k _ _ (ne b o e) q)
    · exact .inr ⟨t3, us, more, rfl, k _ _ (ne b _ e) q⟩
noncomputable def AllFz (ρ : PEnv) : Prop := ∀ y sl, ρ.lookup y = some sl → ∃ d, sl = .fz d
theorem AllFz.nil : AllFz [] := fun y sl h => by simp at h
theorem AllFz.cons {ρ : PEnv} {x : Str} {d : PV} (h : AllFz ρ) : AllFz ((x, .fz d) :: ρ) := fun y sl hy => by
  by_cases q : y = x
  · subst q; simp at hy; exact ⟨d, hy.symm⟩
  · rw [lookup_cons_ne q] at hy; exact h y sl hy
theorem Cap.allFz {env cenv : Env} {ρ ρc : PEnv} (h : Cap env cenv ρ ρc) : AllFz ρc := fun y sl hy => let ⟨d, e, _⟩ := h y sl hy; ⟨d, e⟩
/-- a frame that writes its namespace alone -/
noncomputable def PreC (Z0 Z : Fz) (env : Env) (ρ : PEnv) (s : Shared) : Prop := PreS Z0 (snapC env.locals s.heap) Z env ρ s
theorem PreC.of {S Z : Fz} {env : Env} {ρ : PEnv} {s : Shared} (p : PreS Z0 S Z env ρ s) (hf : env.func = none) (h : AllFz ρ) : PreC Z0 Z env ρ s := by
  refine ⟨⟨p.base, p.fin, snapC_in _ _, p.kind, p.gl, p.bl, p.ns, fun y sl hy => ?_⟩, by simp [snapC], p.ZL, fun _ _ h => (by rw [hf] at h; cases h), fun _ _ _ _ h => (by rw [hf] at h; cases h)⟩
  obtain ⟨v, q1, q2⟩ := p.vars y sl hy
  obtain ⟨d, rfl⟩ := h y sl hy
  exact ⟨v, q1, q2⟩
theorem PreC.but {Z : Fz} {env : Env} {ρ : PEnv} {s : Shared} {a : Addr} {o : Obj} {h' : Heap} {tk : Nat} (p : PreC Z0 Z env ρ s) (hf : env.func = none) (hall : AllFz ρ) (ho : s.heap.get? a = some o) (hc : ∀ v, o.data ≠ .cell v) (ha : a ≠ env.locals) (hz : Z a = none)
    (k : ∀ b x, b ≠ a → s.heap.get? b = some x → h'.get? b = some x) : PreC Z0 Z env ρ { s with heap := h', toks := tk } := by
  have nsK : ∀ {m : Str → Option Value}, s.heap.Ns env.locals m → h'.Ns env.locals m := fun ⟨o, es, ep, ho, r⟩ => ⟨o, es, ep, k _ _ (Ne.symm ha) ho, r⟩
  refine ⟨⟨p.base, p.fin.but hz k, snapC_in _ _, p.kind, p.gl, p.bl, let ⟨m, q⟩ := p.ns; ⟨m, nsK q⟩, fun y sl hy => ?_⟩, by simp [snapC], p.ZL, fun _ _ h => (by rw [hf] at h; cases h), fun _ _ _ _ h => (by rw [hf] at h; cases h)⟩
  obtain ⟨v, q1, q2⟩ := p.vars y sl hy
  obtain ⟨d, rfl⟩ := hall y sl hy
  refine ⟨v, ?_, q2⟩
  rcases q1 with ⟨b, m, n, e⟩ | ⟨b, c, l, ⟨oc, hoc, hdc⟩⟩
  · exact .inl ⟨b, m, nsK n, e⟩
  · exact .inr ⟨b, c, l, oc, k _ _ (by rintro rfl; rw [ho] at hoc; cases hoc; exact hc _ hdc) hoc, hdc⟩
inductive EPost (Z0 Z : Fz) (cenv : Env) (ρc : PEnv) (D : Addr) (s : Shared) (ys : List PV) (s' : Shared) : Prop
  | mk (Z' : Fz) (vs' : List Value) (n' : Nat) (_ : Mv [cenv.locals, D] s Z s' Z') (_ : PreC Z0 Z' cenv ρc s') (_ : s'.heap.get? D = some (listObj vs' n')) (_ : RepL Z' vs' ys) : EPost Z0 Z cenv ρc D s ys s'
inductive CInv (Z0 Z Z₄ : Fz) (cenv : Env) (ρc : PEnv) (D I : Addr) (s : Shared) (St : Nat → Heap → Prop) (n : Nat) (zs : Nat → List PV) (j : Nat) (s' : Shared) : Prop
  | mk (i : Nat) (Z' : Fz) (vs' : List Value) (n' : Nat) (_ : i ≤ n) (_ : j = n + 1 - i) (_ : St i s'.heap) (_ : LeZ Z₄ Z') (_ : Z' I = none) (_ : Z' D = none) (_ : Mv [cenv.locals, D] s Z s' Z') (_ : PreC Z0 Z' cenv ρc s') (_ : s'.heap.get? D = some (listObj vs' n')) (_ : RepL Z' vs' (zs i)) : CInv Z0 Z Z₄ cenv ρc D I s St n zs j s'
/-- what a turn adds to the list -/
noncomputable def Emits (prog : Program) (w : World) (Z0 : Fz) (k : Nat) (cenv : Env) (D : Addr) (ρt ρc : PEnv) (inner : Sem Unit) (zs : List PV) : Prop :=
  ∀ (Z : Fz) (s : Shared) (A : Around) (E : Value → Shared → Prop) (ys : List PV) (vs : List Value) (n : Nat), Room A k → PreC Z0 Z cenv ρt s → s.heap.get? D = some (listObj vs n) → RepL Z vs ys → Z D = none → ys.length + zs.length ≤ 1000 →
    wpAny (model prog w) A inner (fun _ s' => EPost Z0 Z cenv ρc D s (ys ++ zs) s') E s
theorem PreC.weaken {Z : Fz} {env : Env} {ρ ρ' : PEnv} {s : Shared} (p : PreC Z0 Z env ρ s) (h : ∀ x sl, ρ'.lookup x = some sl → ρ.lookup x = some sl) : PreC Z0 Z env ρ' s := PreS.weaken p h
theorem PreC.neD {Z : Fz} {env : Env} {ρ : PEnv} {s : Shared} {D : Addr} {vs : List Value} {n : Nat} (p : PreC Z0 Z env ρ s) (ho : s.heap.get? D = some (listObj vs n)) : D ≠ env.locals := by
  rintro rfl
  obtain ⟨m, o, es, ep, ho', hd, _⟩ := p.ns
  rw [ho] at ho'; cases ho'; cases hd
theorem Emits.elt {cenv : Env} {D : Addr} {ρt ρc : PEnv} {elt : Expr} {d : PV} (hf : cenv.func = none) (hall : AllFz ρt) (hw : ∀ x sl, ρc.lookup x = some sl → ρt.lookup x = some sl) (h : Ev prog w Z0 k cenv ρt elt d) : Emits prog w Z0 k cenv D ρt ρc (do let _ ← call (.builtin "list.append") [.ref D, ← eval elt cenv]) [d] := fun Z s A E ys vs n r p ho hr hz hl => by
  refine wpAny_bind (wpAny_mono (h _ Z s A E r p.toPre) (fun v s₁ q => ?_) fun _ _ x => x)
  obtain ⟨Z₁, e₁, r₁⟩ := q
  have ho₁ := e₁.keep _ _ ho (Tb.seq rfl)
  have := hr.length
  refine wpAny_bind (wpAny_list_append_plain ⟨n, ho₁⟩ (fun h' ⟨n', hp⟩ hs' => ?_) (by rw [List.size_toArray, sizeLine_eq]; (first | exact ar49 hl this | (first | lia | omega))))
  have hk' : ∀ b x, b ≠ D → s₁.heap.get? b = some x → h'.get? b = some x := fun b x hb e => (hs'.2 b hb).trans e
  exact wpAny_pure ⟨Z₁, vs ++ [v], n', e₁.mv.trans (Mv.same1 (tk := s₁.toks) hk' ⟨_, hp⟩ e₁.fin (e₁.off ho hz) (by simp)),
    ((PreC.of (PreS.ext p e₁) hf hall).but hf hall ho₁ (fun _ e => nomatch e) (p.neD ho) (e₁.off ho hz) hk').weaken hw, by simpa [listObj] using hp, (hr.mono e₁.le).append (.one r₁)⟩
/-- the turn's tree -/
noncomputable def TurnEq (e : Expr) (depth : Nat) (pos : Pos) (target : Expr) (ifs : List Expr) (acc : Value) (env : Env) (inner : Sem Unit) : Prop := ∀ it, compTurn e depth it acc env = (do
      standAt pos
      match ← pyNext it with
      | none => pure (.done .next)
      | some v =>
        letOwnedTupleGo target it v
        assign target env v
        let mut ok := true
        for c in ifs do
          if ok then ok ← isTrue c env (eval c env)
        if ok then inner
        again (.compLoop e depth it acc env))
theorem comp_loop {α : Type} {elt : Expr} {gens : List Comprehension} {scope : Scope} {pos p' : Pos} {depth : Nat} {target : Expr} {ifs : List Expr} {D I : Addr} {cenv : Env} {inner : Sem Unit} (ht : TurnEq (.ListComp elt gens scope pos) depth p' target ifs (.ref D) cenv inner)
    {Z Z₄ : Fz} {ρc : PEnv} {s s₄ : Shared} {A : Around} {l : List α} {emb : α → PV} {g : α → List PV} {fp : List Addr} {P : Nat → Value → Prop} {St : Nat → Heap → Prop} {R : Result → Shared → Prop} {ys : List PV} {vs : List Value} {n : Nat}
    (m₄ : Mv [cenv.locals, D] s Z s₄ Z₄) (hI : s.heap.get? I = none) (p₄ : PreC Z0 Z₄ cenv ρc s₄) (hf : cenv.func = none) (hall : AllFz ρc)
    (r : Room A k) (it : It prog w A Z₄ (l.map emb) I fp P St) (hst : St 0 s₄.heap) (hZI : Z₄ I = none) (hD : s₄.heap.get? D = some (listObj vs n)) (hZD : Z₄ D = none) (hr : RepL Z₄ vs ys) (hlen : ys.length + (l.flatMap g).length ≤ 1000)
    (step : ∀ x, x ∈ l → ∃ ρt, Tg prog w Z0 k cenv ρc target (emb x) ρt ∧ AllFz ρt ∧ (∀ x sl, ρc.lookup x = some sl → ρt.lookup x = some sl) ∧ ((g x = [] ∧ Trs prog w Z0 k cenv ρt ifs false) ∨ (Trs prog w Z0 k cenv ρt ifs true ∧ Emits prog w Z0 k cenv D ρt ρc inner (g x))))
    (hR : ∀ s' Z' vs' n', Mv [cenv.locals, D] s Z s' Z' → PreC Z0 Z' cenv ρc s' → s'.heap.get? D = some (listObj vs' n') → Z' D = none → RepL Z' vs' (ys ++ l.flatMap g) → R (.ok .next) s') :
    codeAny (model prog w) A (.compLoop (.ListComp elt gens scope pos) depth (.ref I) (.ref D) cenv) R s₄ := by
  refine codeAny_loop rfl (CInv Z0 Z Z₄ cenv ρc D I s St l.length fun i => ys ++ (l.take i).flatMap g) ?_ (l.length + 1)
    ⟨0, Z₄, vs, n, by (first | exact ar41 | (first | lia | omega)), by (first | exact ar42 | (first | lia | omega)), hst, .refl _, hZI, hZD, m₄, p₄, hD, by simpa using hr⟩
  rintro j s' ⟨i, Z', vs', n', hle, rfl, hst', hZ', hZI', hZD', mv, p', hD', hr'⟩
  show wpAny _ A ((compTurn (.ListComp elt gens scope pos) depth (.ref I) (.ref D) cenv).onRaise (fun x => do noteFrame x cenv; theTreesLotGoes x)) _ _ s'
  refine wpAny_noted ?_
  rw [ht]
  obtain ⟨oI, us, T, hoI, hcI, _, hdI⟩ := it.fld i _ hst'
  have hIC : I ≠ cenv.locals := by
    rintro rfl
    obtain ⟨m, o, es, ep, ho, hd, _⟩ := p'.ns
    rw [hoI] at ho; cases ho; rw [hdI] at hd; cases hd
  have hDI : D ≠ I := by rintro rfl; rw [hoI] at hD'; cases hD'; cases hdI
  have hDC : D ≠ cenv.locals := p'.neD hD'
  have hnc : ∀ v, oI.data ≠ .cell v := fun v e => by rw [hdI] at e; cases e
  refine wpAny_bind (wpAny_standAt (wpAny_bind ?_))
  by_cases hlt : i < l.length
  · refine it.W.item i _ _ _ (by simpa using hlt) hst' fun u h' tk hP hst₂ hk₂ => ?_
    have hk' : ∀ b x, b ≠ I → s'.heap.get? b = some x → h'.get? b = some x := fun b x hb e => hk₂ b x (by simpa using hb) e
    obtain ⟨oJ, us', T', hoJ, hcJ, _, hdJ⟩ := it.fld (i + 1) _ hst₂
    refine wpAny_bind (it.go hst₂ ?_)
    obtain ⟨d, hd, rd⟩ := it.val i u (by simpa using hlt) hP
    obtain ⟨x, hx, rfl⟩ : ∃ x, l[i]? = some x ∧ emb x = d := by simpa [List.getElem?_map] using hd
    have hxl : x ∈ l := List.mem_of_getElem? hx
    obtain ⟨ρt, hT, hallt, hwt, hs⟩ := step x hxl
    have m₂ := mv.but (tk := tk) hI hZI' hk'
    have p₂ := p'.but (tk := tk) hf hall hoI hnc hIC hZI' hk'
    have hD₂ : h'.get? D = some (listObj vs' n') := hk' _ _ hDI hD'
    refine wpAny_bind (wpAny_mono (hT _ Z' _ A _ u r p₂ (rd.mono hZ')) (fun _ s₃ h₃ => ?_) fun _ _ x => x)
    obtain ⟨Z₃, st₃, p₃'⟩ := h₃
    have mv₃ := Stp.mv rfl st₃ p₃'
    have p₃ := PreC.of p₃' hf hallt
    have hD₃ : s₃.heap.get? D = some (listObj vs' n') := mv₃.keep (by simpa using hDC) hD₂ (Tb.seq rfl)
    have again : ∀ s₅ Z₅ vs₅ n₅ (hMv : Mv [cenv.locals, D] { s' with heap := h', toks := tk } Z' s₅ Z₅) (hp5 : PreC Z0 Z₅ cenv ρc s₅) (hd5 : s₅.heap.get? D = some (listObj vs₅ n₅)) (hr5 : RepL Z₅ vs₅ (ys ++ (l.take i).flatMap g ++ g x)),
        ∃ m, m < l.length + 1 - i ∧ CInv Z0 Z Z₄ cenv ρc D I s St l.length (fun i => ys ++ (l.take i).flatMap g) m s₅ := by
      intro s₅ Z₅ vs₅ n₅ hMv hp5 hd5 hr5
      refine ⟨l.length + 1 - (i + 1), by (first | exact ar43 hle | (first | lia | omega)), i + 1, Z₅, vs₅, n₅, hlt, rfl, ?_, hZ'.trans hMv.le, hMv.off hoJ hZI', hMv.off hD₂ hZD', m₂.trans hMv, hp5, hd5, ?_⟩
      · refine it.W.frame _ _ _ hst₂ fun b hb' o e => ?_
        rcases it.fp b hb' with rfl | ⟨o', hz⟩
        · rw [show h'.get? b = some oJ from hoJ] at e; cases e
          exact hMv.keep (by simp only [List.mem_cons, List.not_mem_nil, or_false, not_or]; exact ⟨hIC, Ne.symm hDI⟩) hoJ (Tb.ty hcJ)
        · have := m₂.fin.get (hZ' _ _ hz)
          rw [show h'.get? b = some o from e] at this; cases this
          exact hMv.fin.get (hMv.le _ _ (hZ' _ _ hz))
      · rw [List.take_add_one, hx, List.flatMap_append, ← List.append_assoc]
        simpa using hr5
    have mvCD : Mv [cenv.locals, D] { s' with heap := h', toks := tk } Z' s₃ Z₃ := mv₃.sub fun b hb => .inl (by simp at hb; simp [hb])
    rcases hs with ⟨hge, htr⟩ | ⟨htr, hem⟩
    · refine wpAny_bind (wpAny_mono (htr _ Z₃ s₃ A _ r p₃.toPre) (fun ok s₄' h₄ => ?_) fun _ _ x => x)
      obtain ⟨rfl, Z₅, e₅⟩ := h₄
      refine wpAny_pure ⟨rfl, again s₄' Z₅ vs' n' (mvCD.trans e₅.mv) ((PreC.of (PreS.ext p₃ e₅) hf hallt).weaken hwt) (e₅.keep _ _ hD₃ (Tb.seq rfl)) ?_⟩
      rw [hge, List.append_nil]
      exact hr'.mono (mv₃.le.trans e₅.le)
    · refine wpAny_bind (wpAny_mono (htr _ Z₃ s₃ A _ r p₃.toPre) (fun ok s₄' h₄ => ?_) fun _ _ x => x)
      obtain ⟨rfl, Z₅, e₅⟩ := h₄
      have p₅ := PreC.of (PreS.ext p₃ e₅) hf hallt
      refine wpAny_bind (wpAny_mono (hem Z₅ s₄' A _ _ vs' n' r p₅ (e₅.keep _ _ hD₃ (Tb.seq rfl)) (hr'.mono (mv₃.le.trans e₅.le)) (e₅.off hD₃ (mv₃.off hD₂ hZD')) ?_) (fun _ s₆ h₆ => ?_) fun _ _ x => x)
      · refine Nat.le_trans ?_ hlen
        have : ((l.take i).flatMap g).length + (g x).length ≤ (l.flatMap g).length := by
          have h2 : l.take (i + 1) = l.take i ++ [x] := by rw [List.take_add_one, hx]; rfl
          have h3 : l.flatMap g = (l.take (i + 1)).flatMap g ++ (l.drop (i + 1)).flatMap g := by rw [← List.flatMap_append, List.take_append_drop]
          rw [h3, h2, List.flatMap_append]
          simp
        simp only [List.length_append]
        (first | exact ar50 this | (first | lia | omega))
      · obtain ⟨Z₆, vs₆, n₆, mv₆, hn₆, hd₆, hr₆⟩ := h₆
        exact wpAny_pure ⟨rfl, again s₆ Z₆ vs₆ n₆ ((mvCD.trans e₅.mv).trans mv₆) hn₆ hd₆ hr₆⟩
  · have : i = l.length := by (first | exact ar44 hle hlt | (first | lia | omega))
    subst this
    refine it.W.done _ _ _ (by simpa using hst') fun h' tk hk₂ => ?_
    have hk' : ∀ b x, b ≠ I → s'.heap.get? b = some x → h'.get? b = some x := fun b x hb e => hk₂ b x (by simpa using hb) e
    exact wpAny_pure (hR _ Z' vs' n' (mv.but (tk := tk) hI hZI' hk') (p'.but (tk := tk) hf hall hoI hnc hIC hZI' hk') (hk' _ _ hDI hD') hZD' (by simpa using hr'))
end Mq
set_option tactic.hygienic false
namespace Mq
open PySem PySem.Spec PySem.Calls PyProof.Rows PySem.W
variable {prog : Program} {w : World} {Z0 : Fz} {k : Nat} {mg mb : Str → Option Value}
theorem comp_block {α : Type} {elt target iter : Expr} {ifs : List Expr} {rest : List Comprehension} {scope : Scope} {cl : List (Str × Addr)} {pos p' : Pos} {env : Env} {ρ ρc : PEnv} {S Z₁ : Fz} {s₁ : Shared} {A : Around} {E : Value → Shared → Prop}
    {l : List α} {emb : α → PV} {g : α → List PV} {fp : List Addr} {P : Nat → Value → Prop} {St : Nat → Heap → Prop} {o : Obj} {inner : Addr → Env → Sem Unit} {RR : Value → Addr → Result → Shared → Prop}
    (p₁ : Pre Z0 S Z₁ env ρ s₁) (r : Room A k) (it : It prog w A Z₁ (l.map emb) s₁.heap.objs.size fp P St) (hst : St 0 (s₁.heap.push o))
    (hcap : ∀ C, Cap env (compEnvC scope cl C env) ρ ρc) (hcell : ∀ y ∈ scope.names, y.2 ≠ .cell) (hkind : scope.kind = .function)
    (ht : ∀ D C, TurnEq (.ListComp elt (⟨target, iter, ifs, 0⟩ :: rest) scope pos) 0 p' target ifs (.ref D) (compEnvC scope cl C env) (inner D (compEnvC scope cl C env))) (hlen : (l.flatMap g).length ≤ 1000)
    (step : ∀ D C x, x ∈ l → ∃ ρt, Tg prog w Z0 k (compEnvC scope cl C env) ρc target (emb x) ρt ∧ AllFz ρt ∧ (∀ x sl, ρc.lookup x = some sl → ρt.lookup x = some sl) ∧
      ((g x = [] ∧ Trs prog w Z0 k (compEnvC scope cl C env) ρt ifs false) ∨ (Trs prog w Z0 k (compEnvC scope cl C env) ρt ifs true ∧ Emits prog w Z0 k (compEnvC scope cl C env) D ρt ρc (inner D (compEnvC scope cl C env)) (g x))))
    (hRR : ∀ D C s' Z' vs n, s₁.heap.get? D = none → s₁.heap.get? C = none → D ≠ C → Mv [C, D] s₁ Z₁ s' Z' → (∃ m, s'.heap.Ns C m) → s'.heap.get? D = some (listObj vs n) → Z' D = none → Z' C = none → RepL Z' vs (l.flatMap g) → RR (.ref D) C (.ok .next) s') :
    wpAny (model prog w) A (newList []) (fun acc s₃ => wpAny (model prog w) A (newFunctionEnv scope env.globals cl [] env.qual none .none (some env)) (fun cenv s₄ =>
      codeAny (model prog w) A (.compStart (.ListComp elt (⟨target, iter, ifs, 0⟩ :: rest) scope pos) 0 (.ref s₁.heap.objs.size) acc { cenv with scope := relabel scope env }) (RR acc cenv.locals) s₄) E s₃) E { s₁ with heap := s₁.heap.push o } := by
  refine wpAny_newObj_type (wpAny_newFunctionEnv hcell (by intro y hy; simp at hy) (fun h₁ hns₁ hsb₁ => ?_) hkind)
  dsimp only at hns₁ hsb₁ ⊢
  have hIn := get?_size s₁.heap
  have hDv : (s₁.heap.push o).objs.size = s₁.heap.objs.size + 1 := Heap.size_push ..
  generalize hIe : s₁.heap.objs.size = I at *
  generalize hH1 : s₁.heap.push o = H1 at *
  generalize hDe : H1.objs.size = D at *
  generalize hH2 : H1.push { cls := .type "list", dict := none, data := .seq ([] : List Value).toArray } = H2 at *
  have hC : H2.objs.size = D + 1 := by rw [← hH2, Heap.size_push, hDe]
  generalize hCe : H2.objs.size = C at *
  have fresh : ∀ a, I ≤ a → s₁.heap.get? a = none := fun a ha => by
    cases e : s₁.heap.get? a with
    | none => rfl
    | some o' => exact absurd (Heap.lt_size e) (Nat.not_lt.mpr (hIe ▸ ha))
  have lt1 : ∀ b x, H1.get? b = some x → b < D := fun b x e => hDe ▸ Heap.lt_size e
  have k1 : ∀ b x, s₁.heap.get? b = some x → H1.get? b = some x := fun b x e => hH1 ▸ Heap.get?_push_of_some _ e
  have k2 : ∀ b x, H1.get? b = some x → h₁.get? b = some x := fun b x e => hsb₁.extBut b x (by have := lt1 b x e; rw [hC]; exact Nat.ne_of_lt (Nat.lt_succ_of_lt this)) (Heap.get?_push_of_some _ (hH2 ▸ Heap.get?_push_of_some _ e))
  have hD : h₁.get? D = some (listObj [] 0) := hsb₁.extBut D _ (by rw [hC]; exact Nat.ne_of_lt (Nat.lt_succ_self _)) (Heap.get?_push_of_some _ (hH2 ▸ hDe ▸ Heap.get?_push_size H1 rfl))
  have hst₁ : St 0 h₁ := it.W.frame _ _ _ hst fun b _ x e => k2 b x e
  have hDI : D ≠ I := by rw [hDv]; exact Nat.ne_of_gt (Nat.lt_succ_self _)
  have hCI : C ≠ I := by rw [hC, hDv]; exact Nat.ne_of_gt (Nat.lt_succ_of_lt (Nat.lt_succ_self _))
  have hDn : s₁.heap.get? D = none := fresh D (by rw [hDv]; exact Nat.le_succ _)
  have hCn : s₁.heap.get? C = none := fresh C (by rw [hC, hDv]; exact Nat.le_trans (Nat.le_succ _) (Nat.le_succ _))
  have hDC : D ≠ C := by rw [hC]; exact Nat.ne_of_lt (Nat.lt_succ_self _)
  have ek : ∀ t, Ext s₁ Z₁ { s₁ with heap := h₁, toks := t } Z₁ := fun t => Ext.keeps p₁.fin fun b x e => k2 b x (k1 b x e)
  have loop : ∀ s₃ : Shared, s₃ = { s₁ with heap := h₁, toks := s₁.toks + ([] : List (Str × Value)).length } →
      codeAny (model prog w) A (.compLoop (.ListComp elt (⟨target, iter, ifs, 0⟩ :: rest) scope pos) 0 (.ref I) (.ref D) (compEnvC scope cl C env)) (RR (.ref D) C) s₃ := by
    rintro s₃ rfl
    have mv : Mv [(compEnvC scope cl C env).locals, D] s₁ Z₁ { s₁ with heap := h₁, toks := s₁.toks + ([] : List (Str × Value)).length } Z₁ := (ek _).mv
    refine comp_loop (ht D C) mv hIn (PreC.of (compPre p₁ mv (by simp only [List.mem_cons, List.not_mem_nil, or_false]; rintro b (rfl | rfl); exact hCn; exact hDn) (hcap C) hkind rfl rfl rfl ⟨_, hns₁⟩ (p₁.fin.off hCn)) rfl (hcap C).allFz) rfl (hcap C).allFz r it hst₁ (p₁.fin.off hIn) hD (p₁.fin.off hDn) .nil (by simpa using hlen) (step D C) fun s' Z' vs' n' mv' p' hD' hZD hr' => ?_
    exact hRR D C s' Z' vs' n' hDn hCn hDC mv' p'.ns hD' hZD p'.ZL (by simpa using hr')
  exact codeAny_compStart_list (loop _ rfl) (it.W.self 0 _ _ _ hst₁ (loop _ rfl))
/-- a list display over one walk: general turn -/
theorem Ev.compG {α : Type} {elt target iter : Expr} {ifs : List Expr} {rest : List Comprehension} {scope : Scope} {cl : List (Str × Addr)} {pos p' : Pos} {env : Env} {ρ ρc : PEnv} {d : PV}
    {l : List α} {emb : α → PV} {g : α → List PV} {inner : Addr → Env → Sem Unit} (hI : Iters d (l.map emb)) (hi : Ev prog w Z0 k env ρ iter d)
    (hcap : ∀ C, Cap env (compEnvC scope cl C env) ρ ρc) (hcell : ∀ y ∈ scope.names, y.2 ≠ .cell) (hkind : scope.kind = .function) (hnames : ∀ y ∈ scope.names, y.2 = .local → scope.names.lookup y.1 = some .local) (hclos : closureFor scope env = pure cl)
    (ht : ∀ D C, TurnEq (.ListComp elt (⟨target, iter, ifs, 0⟩ :: rest) scope pos) 0 p' target ifs (.ref D) (compEnvC scope cl C env) (inner D (compEnvC scope cl C env))) (hlen : (l.flatMap g).length ≤ 1000)
    (step : ∀ D C x, x ∈ l → ∃ ρt, Tg prog w Z0 k (compEnvC scope cl C env) ρc target (emb x) ρt ∧ AllFz ρt ∧ (∀ x sl, ρc.lookup x = some sl → ρt.lookup x = some sl) ∧
      ((g x = [] ∧ Trs prog w Z0 k (compEnvC scope cl C env) ρt ifs false) ∨ (Trs prog w Z0 k (compEnvC scope cl C env) ρt ifs true ∧ Emits prog w Z0 k (compEnvC scope cl C env) D ρt ρc (inner D (compEnvC scope cl C env)) (g x))))
    (hs : ∀ x, foldedSetIterable iter env x = pure x) : Ev prog w Z0 k env ρ (.ListComp elt (⟨target, iter, ifs, 0⟩ :: rest) scope pos) (.list (l.flatMap g)) := fun S Z s A E r p => by
  rw [eval_ListComp]
  refine wpAny_comprehension_free (use := none) rfl hs hclos hkind hnames (wpAny_mono (hi S Z s A E r p) (fun xv s₁ h₁ => ?_) fun _ _ e => e)
  obtain ⟨Z₁, e₁, r₁⟩ := h₁
  have p₁ := p.ext e₁
  refine iter_start hI r₁ p₁.fin r.handled fun o fp P St it hf hst => ?_
  refine comp_block (RR := fun acc C => compPost (model prog w) A E none _ acc C) p₁ r it hst hcap hcell hkind ht hlen step ?_
  intro D C s' Z' vs n hDn hCn hDC mv hns hD hZD hZC hr
  refine ⟨_, hns.choose_spec, fun h' hs' => ?_⟩
  have mv' : Mv [C, D] s₁ Z₁ { s' with heap := h' } Z' := mv.but (tk := s'.toks) hCn hZC fun b x hb e => (hs'.2 b hb).trans e
  have ext' := mv'.ext (by simp only [List.mem_cons, List.not_mem_nil, or_false]; rintro b (rfl | rfl); exact hCn; exact hDn)
  have hD' : h'.get? D = some (listObj vs n) := (hs'.2 D hDC).trans hD
  refine ⟨Z'.add D (listObj vs n), e₁.trans ⟨ext'.same, ext'.old, ext'.le.trans (Fz.le_add hZD), ext'.fin.add hD' (Tb.seq rfl), fun a x e e' => ?_⟩, .list (Fz.add_self ..) rfl rfl rfl (hr.mono (Fz.le_add hZD))⟩
  rcases Fz.add_cases e with ⟨rfl, rfl⟩ | e
  · exact hDn
  · exact ext'.fresh a x e e'
theorem Ev.comp1 {α : Type} {elt target iter : Expr} {ifs : List Expr} {scope : Scope} {cl : List (Str × Addr)} {pos : Pos} {env : Env} {ρ : PEnv} {d : PV} (ρc : PEnv)
    {l : List α} {emb : α → PV} (g : α → List PV) {ys : List PV} (hys : l.flatMap g = ys) (hI : Iters d (l.map emb)) (hi : Ev prog w Z0 k env ρ iter d) (hclos : closureFor scope env = pure cl)
    (hcap : ∀ C, Cap env (compEnvC scope cl C env) ρ ρc) (hlen : ys.length ≤ 1000)
    (step : ∀ C x, x ∈ l → ∃ ρt, Tg prog w Z0 k (compEnvC scope cl C env) ρc target (emb x) ρt ∧ AllFz ρt ∧ (∀ x sl, ρc.lookup x = some sl → ρt.lookup x = some sl) ∧
      ((g x = [] ∧ Trs prog w Z0 k (compEnvC scope cl C env) ρt ifs false) ∨ (Trs prog w Z0 k (compEnvC scope cl C env) ρt ifs true ∧ ∃ y, g x = [y] ∧ Ev prog w Z0 k (compEnvC scope cl C env) ρt elt y)))
    (hcell : ∀ y ∈ scope.names, y.2 ≠ .cell := by decide) (hkind : scope.kind = .function := by rfl) (hnames : ∀ y ∈ scope.names, y.2 = .local → scope.names.lookup y.1 = some .local := by decide)
    (hs : ∀ x, foldedSetIterable iter env x = pure x := by intro _; rfl) : Ev prog w Z0 k env ρ (.ListComp elt [⟨target, iter, ifs, 0⟩] scope pos) (.list ys) := by
  subst hys
  refine Ev.compG (inner := fun D cenv => do let _ ← call (.builtin "list.append") [.ref D, ← eval elt cenv]) hI hi hcap hcell hkind hnames hclos (fun D C it => compTurn_list ..) hlen (fun D C x hx => ?_) hs
  obtain ⟨ρt, h1, h2, h3, h4⟩ := step C x hx
  refine ⟨ρt, h1, h2, h3, h4.imp id fun ⟨a, y, b, c⟩ => ⟨a, ?_⟩⟩
  rw [b]
  exact Emits.elt rfl h2 h3 c
end Mq
set_option tactic.hygienic false
namespace Mq
open PySem PySem.Spec PySem.Calls PyProof.Rows PySem.W
variable {prog : Program} {w : World} {Z0 : Fz} {k : Nat} {mg mb : Str → Option Value}
theorem compStart_one {elt t0 i0 t1 i1 scope pos it acc env} {f0 f1 : List Expr} {A : Around} {R : Result → Shared → Prop} {s : Shared}
    (h0 : codeAny (model prog w) A (.compLoop (.ListComp elt [⟨t0, i0, f0, 0⟩, ⟨t1, i1, f1, 0⟩] scope pos) 1 it acc env) R s)
    (h : wpAny (model prog w) A (pyIter it) (fun it' s' => codeAny (model prog w) A (.compLoop (.ListComp elt [⟨t0, i0, f0, 0⟩, ⟨t1, i1, f1, 0⟩] scope pos) 1 it' acc env) R s')
      (notedBy (model prog w) A env fun x s' => R (.error x) s') s) :
    codeAny (model prog w) A (.compStart (.ListComp elt [⟨t0, i0, f0, 0⟩, ⟨t1, i1, f1, 0⟩] scope pos) 1 it acc env) R s := by
  refine codeAny_of_tree ?_
  show wpAny _ _ ((compStart (.ListComp elt [⟨t0, i0, f0, 0⟩, ⟨t1, i1, f1, 0⟩] scope pos) 1 it acc env).onRaise (fun x => do noteFrame x env; standAt theWindowsPlace)) _ _ s
  refine wpAny_notedAt ?_
  unfold compStart
  show wpAny _ _ (ask >>= _) _ _ s
  refine wpAny_bind (wpAny_askSetting (wpAny_ite ?_))
  split
  · first
      | exact wpAny_bind (wpAny_pure (wpAny_pure (And.intro rfl h0)))
      | exact wpAny_pure (And.intro rfl h0)
  · first
      | exact wpAny_bind (wpAny_rule (wpAny_bind (wpAny_standAt (wpAny_bind (wpAny_mono h (fun it' s' h' => wpAny_pure (And.intro rfl h')) fun _ _ x => x)))))
      | (refine wpAny_bind (wpAny_rule ?_); show wpAny _ _ (standAt i1.pos >>= _) _ _ s; exact wpAny_bind (wpAny_standAt (wpAny_bind (wpAny_mono h (fun it' s' h' => wpAny_pure (And.intro rfl h')) fun _ _ x => x))))
noncomputable def inner2 (e : Expr) (i1 : Expr) (D : Addr) (env : Env) : Sem Unit := do
  let x ← eval i1 env
  standAt i1.pos
  let x ← foldedSetIterable i1 env x
  let _ ← runOwn (.compStart e 1 (← holding [x] (pyIter x)) (.ref D) env) env
theorem turn2_0 (elt t0 i0 t1 i1 : Expr) (f0 f1 : List Expr) (scope : Scope) (pos : Pos) (D : Addr) (env : Env) :
    TurnEq (.ListComp elt [⟨t0, i0, f0, 0⟩, ⟨t1, i1, f1, 0⟩] scope pos) 0 i0.pos t0 f0 (.ref D) env (inner2 (.ListComp elt [⟨t0, i0, f0, 0⟩, ⟨t1, i1, f1, 0⟩] scope pos) i1 D env) := fun it => by
  unfold inner2
  simp only [bind_assoc, pure_bind]
  rfl
theorem turn2_1 (elt t0 i0 t1 i1 : Expr) (f0 f1 : List Expr) (scope : Scope) (pos : Pos) (D : Addr) (env : Env) :
    TurnEq (.ListComp elt [⟨t0, i0, f0, 0⟩, ⟨t1, i1, f1, 0⟩] scope pos) 1 i1.pos t1 f1 (.ref D) env (do let _ ← call (.builtin "list.append") [.ref D, ← eval elt env]) := fun it => by rfl
theorem Emits.inner2 {α : Type} {elt t0 i0 t1 i1 : Expr} {f0 f1 : List Expr} {scope : Scope} {pos : Pos} {cenv : Env} {D : Addr} {ρt ρc : PEnv} {d : PV} {l : List α} {emb : α → PV} {g : α → PV} (hf : cenv.func = none) (hall : AllFz ρt) (hw : ∀ x sl, ρc.lookup x = some sl → ρt.lookup x = some sl)
    (hI : Iters d (l.map emb)) (hi : Ev prog w Z0 k cenv ρt i1 d) (hs : ∀ x, foldedSetIterable i1 cenv x = pure x)
    (step : ∀ x, x ∈ l → ∃ ρu, Tg prog w Z0 k cenv ρt t1 (emb x) ρu ∧ AllFz ρu ∧ (∀ x sl, ρt.lookup x = some sl → ρu.lookup x = some sl) ∧ Trs prog w Z0 k cenv ρu f1 true ∧ Ev prog w Z0 k cenv ρu elt (g x)) :
    Emits prog w Z0 k cenv D ρt ρc (Mq.inner2 (.ListComp elt [⟨t0, i0, f0, 0⟩, ⟨t1, i1, f1, 0⟩] scope pos) i1 D cenv) (l.map g) := fun Z s A E ys vs n r p ho hr hz hl => by
  unfold Mq.inner2
  refine wpAny_bind (wpAny_mono (hi _ Z s A E r p.toPre) (fun v s₁ q => ?_) fun _ _ x => x)
  obtain ⟨Z₁, e₁, r₁⟩ := q
  refine wpAny_bind (wpAny_standAt (wpAny_bind (wpAny_of_eq (hs v) (wpAny_bind (wpAny_holding ?_)))))
  refine iter_start hI r₁ e₁.fin r.handled fun o fp P St it hof hst => ?_
  have hIn := get?_size s₁.heap
  have e₂ : Ext s₁ Z₁ { s₁ with heap := s₁.heap.push o } Z₁ := Ext.keeps (t := s₁.toks) e₁.fin fun _ _ e => Heap.get?_push_of_some _ e
  have p₁ : PreC Z0 Z₁ cenv ρt s₁ := PreC.of (PreS.ext p e₁) hf hall
  have p₂ : PreC Z0 Z₁ cenv ρt { s₁ with heap := s₁.heap.push o } := PreC.of (PreS.ext p₁ e₂) hf hall
  have ho₁ := e₁.keep _ _ ho (Tb.seq rfl)
  have ho₂ := e₂.keep _ _ ho₁ (Tb.seq rfl)
  refine wpAny_bind (wpAny_runOwn ?_)
  rw [Around.mark_none]
  have loop : codeAny (model prog w) A (.compLoop (.ListComp elt [⟨t0, i0, f0, 0⟩, ⟨t1, i1, f1, 0⟩] scope pos) 1 (.ref s₁.heap.objs.size) (.ref D) cenv) (fun r' s' => match r' with
      | .ok f => wpAny (model prog w) A (pure ()) (fun _ s' => EPost Z0 Z cenv ρc D s (ys ++ l.map g) s') E s'
      | .error e => cameBackBy (model prog w) A cenv E e s') { s₁ with heap := s₁.heap.push o } := by
    refine comp_loop (l := l) (emb := emb) (g := fun x => [g x]) (turn2_1 elt t0 i0 t1 i1 f0 f1 scope pos D cenv) e₂.mv hIn p₂ hf hall r it hst (e₁.fin.off hIn) ho₂ (e₂.off ho₁ (e₁.off ho hz)) (hr.mono e₁.le) ?_ (fun x hx => ?_) fun s' Z' vs' n' mv' p' hD' hZD hr' => ?_
    · rw [← List.map_eq_flatMap]; exact hl
    · obtain ⟨ρu, h1, h2, h3, h4, h5⟩ := step x hx
      exact ⟨ρu, h1, h2, h3, .inr ⟨h4, Emits.elt hf h2 h3 h5⟩⟩
    · exact wpAny_pure ⟨Z', vs', n', e₁.mv.trans mv', p'.weaken hw, hD', by rw [← List.map_eq_flatMap] at hr'; exact hr'⟩
  exact compStart_one loop (it.W.self 0 _ _ _ hst loop)
end Mq
set_option tactic.hygienic false
namespace Mq
open PySem PySem.Spec PySem.Calls PyProof.Rows PySem.W
variable {prog : Program} {w : World} {Z0 : Fz} {k : Nat} {mg mb : Str → Option Value}
theorem Ev.comp2 {α β : Type} {elt t0 i0 t1 i1 : Expr} {f0 f1 : List Expr} {scope : Scope} {cl : List (Str × Addr)} {pos : Pos} {env : Env} {ρ : PEnv} {d : PV} (ρc : PEnv)
    {l : List α} {emb : α → PV} (l2 : α → List β) (emb2 : β → PV) (g : β → PV) (hI : Iters d (l.map emb)) (hi : Ev prog w Z0 k env ρ i0 d) (hclos : closureFor scope env = pure cl)
    (hcap : ∀ C, Cap env (compEnvC scope cl C env) ρ ρc) (hlen : (l.flatMap fun x => (l2 x).map g).length ≤ 1000)
    (step : ∀ C x, x ∈ l → ∃ ρt d2, Tg prog w Z0 k (compEnvC scope cl C env) ρc t0 (emb x) ρt ∧ AllFz ρt ∧ (∀ x sl, ρc.lookup x = some sl → ρt.lookup x = some sl) ∧ Trs prog w Z0 k (compEnvC scope cl C env) ρt f0 true ∧
      Iters d2 ((l2 x).map emb2) ∧ Ev prog w Z0 k (compEnvC scope cl C env) ρt i1 d2 ∧ (∀ x, foldedSetIterable i1 (compEnvC scope cl C env) x = pure x) ∧
      ∀ y, y ∈ l2 x → ∃ ρu, Tg prog w Z0 k (compEnvC scope cl C env) ρt t1 (emb2 y) ρu ∧ AllFz ρu ∧ (∀ x sl, ρt.lookup x = some sl → ρu.lookup x = some sl) ∧ Trs prog w Z0 k (compEnvC scope cl C env) ρu f1 true ∧ Ev prog w Z0 k (compEnvC scope cl C env) ρu elt (g y))
    (hcell : ∀ y ∈ scope.names, y.2 ≠ .cell := by decide) (hkind : scope.kind = .function := by rfl) (hnames : ∀ y ∈ scope.names, y.2 = .local → scope.names.lookup y.1 = some .local := by decide)
    (hs : ∀ x, foldedSetIterable i0 env x = pure x := by intro _; rfl) : Ev prog w Z0 k env ρ (.ListComp elt [⟨t0, i0, f0, 0⟩, ⟨t1, i1, f1, 0⟩] scope pos) (.list (l.flatMap fun x => (l2 x).map g)) := by
  refine Ev.compG (inner := fun D cenv => inner2 (.ListComp elt [⟨t0, i0, f0, 0⟩, ⟨t1, i1, f1, 0⟩] scope pos) i1 D cenv) hI hi hcap hcell hkind hnames hclos (fun D C => turn2_0 elt t0 i0 t1 i1 f0 f1 scope pos D _) hlen (fun D C x hx => ?_) hs
  obtain ⟨ρt, d2, h1, h2, h3, h4, h5, h6, h7, h8⟩ := step C x hx
  exact ⟨ρt, h1, h2, h3, .inr ⟨h4, Emits.inner2 rfl h2 h3 h5 h6 h7 h8⟩⟩
noncomputable def noOwnD (ρ : PEnv) : Bool := ρ.all fun p => !p.2.isOwnD
theorem noOwnD_not {ρ : PEnv} {y : Str} {sl : Slot} (h : noOwnD ρ = true) (hl : ρ.lookup y = some sl) : sl.isOwnD = false := by
  have := List.all_eq_true.mp h _ (mem_of_lookup hl)
  simpa using this
theorem PreS.butC {S Z : Fz} {env : Env} {ρ : PEnv} {s : Shared} {C : Addr} {h' : Heap} {tk : Nat} (p : PreS Z0 S Z env ρ s) (hns : ∃ m, s.heap.Ns C m) (hC : C ≠ env.locals) (hz : Z C = none) (hS : S C = none) (hd : noOwnD ρ = true)
    (k : ∀ b x, b ≠ C → s.heap.get? b = some x → h'.get? b = some x) : PreS Z0 S Z env ρ { s with heap := h', toks := tk } := by
  obtain ⟨m₀, o₀, es₀, ep₀, ho₀, hd₀, _⟩ := hns
  have cellK : ∀ {c : Addr} {v : Option Value}, s.heap.IsCell c v → h'.IsCell c v := fun {c v} ⟨oc, hoc, hdc⟩ => ⟨oc, k _ _ (by rintro rfl; rw [ho₀] at hoc; cases hoc; rw [hd₀] at hdc; cases hdc) hoc, hdc⟩
  have nsK : ∀ {m : Str → Option Value}, s.heap.Ns env.locals m → h'.Ns env.locals m := fun ⟨o, es, ep, ho, r⟩ => ⟨o, es, ep, k _ _ (Ne.symm hC) ho, r⟩
  refine ⟨⟨p.base, p.fin.but hz k, p.snap.but hS k, p.kind, p.gl, p.bl, let ⟨m, h⟩ := p.ns; ⟨m, nsK h⟩, fun x sl hx => ?_⟩, p.SL, p.ZL, fun x hx hF => ?_, p.apart⟩
  · obtain ⟨v, h1, h2⟩ := p.vars x sl hx
    refine ⟨v, ?_, ?_⟩
    · rcases h1 with ⟨a, m, n, e⟩ | ⟨a, c, l, e⟩
      · exact .inl ⟨a, m, nsK n, e⟩
      · exact .inr ⟨a, c, l, cellK e⟩
    · cases sl with
      | fz d => exact h2
      | own xs =>
        obtain ⟨a, us, n, q1, q2, q3⟩ := h2
        exact ⟨a, us, n, q1, k _ _ (by rintro rfl; rw [ho₀] at q2; cases q2; cases hd₀) q2, q3⟩
      | ownD ks ds => exact absurd (noOwnD_not hd hx) (by simp [Slot.isOwnD])
  · obtain ⟨c, v, h1, h2, h3, h4⟩ := p.cells x hx hF
    exact ⟨c, v, h1, h2, h3, cellK h4⟩
theorem wpAny_and_store {S Z : Fz} {env : Env} {ρ : PEnv} {s : Shared} {x : Str} {v : Value} {sl : Slot} {A : Around} {E : Value → Shared → Prop} (p : PreS Z0 S Z env ρ s) (hx : env.kindOf x = some .local) (hv : SlotIs S Z s.heap env.locals v sl) :
    wpAny (model prog w) A (storeName env x v) (fun _ s' => Stp S Z s s' Z ∧ PreS Z0 S Z env ((x, sl) :: ρ) s' ∧ Heap.SameBut env.locals s.heap s'.heap) E s :=
  p.store (.inl hx) hv fun s' e' p' hb => ⟨e', p', hb hx⟩
theorem X1.assignComp {α : Type} {elt target iter : Expr} {ifs : List Expr} {scope : Scope} {cl : List (Str × Addr)} {pos spos py : Pos} {y : Str} {env : Env} {ρ : PEnv} {d : PV} (ρc : PEnv)
    {l : List α} {emb : α → PV} (g : α → List PV) {ys : List PV} (hys : l.flatMap g = ys) (hI : Iters d (l.map emb)) (hi : Ev prog w Z0 k env ρ iter d) (hy : env.kindOf y = some .local) (hclos : closureFor scope env = pure cl)
    (hcap : ∀ C, Cap env (compEnvC scope cl C env) ρ ρc) (hlen : ys.length ≤ 1000) (hnd : noOwnD ρ = true)
    (step : ∀ C x, x ∈ l → ∃ ρt, Tg prog w Z0 k (compEnvC scope cl C env) ρc target (emb x) ρt ∧ AllFz ρt ∧ (∀ x sl, ρc.lookup x = some sl → ρt.lookup x = some sl) ∧
      ((g x = [] ∧ Trs prog w Z0 k (compEnvC scope cl C env) ρt ifs false) ∨ (Trs prog w Z0 k (compEnvC scope cl C env) ρt ifs true ∧ ∃ y, g x = [y] ∧ Ev prog w Z0 k (compEnvC scope cl C env) ρt elt y)))
    (hsw : swapsWith (.ListComp elt [⟨target, iter, ifs, 0⟩] scope pos) (some (.Name y py)) spos.line env = pure true := by rfl)
    (hcell : ∀ y ∈ scope.names, y.2 ≠ .cell := by decide) (hkind : scope.kind = .function := by rfl) (hnames : ∀ y ∈ scope.names, y.2 = .local → scope.names.lookup y.1 = some .local := by decide)
    (hs : ∀ x, foldedSetIterable iter env x = pure x := by intro _; rfl) : X1 prog w Z0 k env ρ (.Assign [.Name y py] (.ListComp elt [⟨target, iter, ifs, 0⟩] scope pos) spos) ((y, .fz (.list ys)) :: ρ) := fun S Z s A E r p => by
  subst hys
  rw [exec_Assign_Name_used _ _ _ _ hsw]
  refine wpAny_bind (wpAny_standAt (wpAny_bind ?_))
  show wpAny _ A (do let _ ← comprehension (.ListComp elt [⟨target, iter, ifs, 0⟩] scope pos) scope env _ (PySem.newList []) false (eval iter env) (some (PySem.assign (.Name y py) env))) _ _ s
  refine wpAny_bind (wpAny_mono (wpAny_comprehension_free (use := some (PySem.assign (.Name y py) env)) (Q := fun _ s' => PostS Z0 S Z env s ((y, .fz (.list (l.flatMap g))) :: ρ) .next s') rfl hs hclos hkind hnames
    (wpAny_mono (hi S Z s A E r p.toPre) (fun xv s₁ h₁ => ?_) fun _ _ e => e)) (fun _ s' hq => wpAny_pure (wpAny_pure hq)) fun _ _ e => e)
  obtain ⟨Z₁, e₁, r₁⟩ := h₁
  have p₁ := p.ext e₁
  refine iter_start hI r₁ p₁.fin r.handled fun o fp P St it hf hst => ?_
  refine comp_block (inner := fun D cenv => do let _ ← call (.builtin "list.append") [.ref D, ← eval elt cenv]) (RR := fun acc C => compPost (model prog w) A E (some (PySem.assign (.Name y py) env)) _ acc C) p₁.toPre r it hst hcap hcell hkind (fun D C it => compTurn_list ..) hlen (fun D C x hx => ?_) ?_
  · obtain ⟨ρt, h1, h2, h3, h4⟩ := step C x hx
    refine ⟨ρt, h1, h2, h3, h4.imp id fun ⟨a, y, b, c⟩ => ⟨a, ?_⟩⟩
    rw [b]
    exact Emits.elt rfl h2 h3 c
  intro D C s' Z' vs n hDn hCn hDC mv hns hD hZD hZC hr
  have ext' := mv.ext (by simp only [List.mem_cons, List.not_mem_nil, or_false]; rintro b (rfl | rfl); exact hCn; exact hDn)
  have ext₂ : Ext s₁ Z₁ s' (Z'.add D (listObj vs n)) := ⟨ext'.same, ext'.old, ext'.le.trans (Fz.le_add hZD), ext'.fin.add hD (Tb.seq rfl), fun a x e e' => by
    rcases Fz.add_cases e with ⟨rfl, rfl⟩ | e
    · exact hDn
    · exact ext'.fresh a x e e'⟩
  have p₂ := p₁.ext ext₂
  have hCL : C ≠ env.locals := by
    rintro rfl
    obtain ⟨m, x, es, ep, hx, _⟩ := p₁.ns
    rw [hCn] at hx; cases hx
  have hZC' : (Z'.add D (listObj vs n)) C = none := by simp [Fz.add, Ne.symm hDC, hZC]
  show wpAny _ A (PySem.assign (.Name y py) env (.ref D)) _ _ _
  obtain ⟨m, hm⟩ := hns
  obtain ⟨m₁, hm₁⟩ := p₂.ns
  have hnsC : ∀ h', Heap.SameBut env.locals s'.heap h' → h'.Ns C m := fun h' hs' => hm.sameBut hs' hCL
  refine wpAny_mono (wpAny_assign_Name (wpAny_and_store p₂ hy (sl := .fz (.list (l.flatMap g))) (.list (Fz.add_self ..) rfl rfl rfl (hr.mono (Fz.le_add hZD))))) (fun _ s'' q => ?_) fun _ _ x => x
  obtain ⟨st, p₃, hsb⟩ := q
  refine ⟨m, hnsC _ hsb, fun h' hs' => ⟨rfl, _, (((e₁.trans ext₂).stp p.snap).trans st).but (I := C) (tk := s''.toks) (e₁.old.none hCn) fun b x hb e => (hs'.2 b hb).trans e, ?_⟩⟩
  have hnd' : noOwnD ((y, .fz (.list (l.flatMap g))) :: ρ) = true := by simp [noOwnD, Slot.isOwnD] at hnd ⊢; exact hnd
  exact p₃.butC (tk := s''.toks) ⟨m, hnsC _ hsb⟩ hCL hZC' (p₁.snap.off hCn) hnd' fun b x hb e => (hs'.2 b hb).trans e
theorem Sub.nil {ρ : PEnv} : ∀ x sl, List.lookup x ([] : PEnv) = some sl → ρ.lookup x = some sl := fun x sl h => by simp at h
theorem Sub.cons {ρ ρ' : PEnv} {y : Str} {s : Slot} (hy : ρ.lookup y = some s) (h : ∀ x sl, List.lookup x ρ' = some sl → ρ.lookup x = some sl) : ∀ x sl, List.lookup x ((y, s) :: ρ') = some sl → ρ.lookup x = some sl := fun x sl hx => by
  by_cases q : x = y
  · subst q; simp at hx; rw [hy, hx]
  · rw [lookup_cons_ne q] at hx; exact h x sl hx
theorem trs_or {env : Env} {ρ : PEnv} {ifs : List Expr} {P Q : Prop} {b : Bool} (ht : Trs prog w Z0 k env ρ ifs b) (h0 : b = false → P) (h1 : b = true → Q) : (P ∧ Trs prog w Z0 k env ρ ifs false) ∨ (Trs prog w Z0 k env ρ ifs true ∧ Q) := by
  cases b with
  | false => exact .inl ⟨h0 rfl, ht⟩
  | true => exact .inr ⟨ht, h1 rfl⟩
end Mq
set_option tactic.hygienic false
namespace Mq
open PySem PySem.Spec PySem.Calls PyProof.Rows PySem.W
variable {prog : Program} {w : World} {Z0 : Fz} {k : Nat} {mg mb : Str → Option Value}
section
variable {Z : Fz} {v u : Value} {a b : Int} {xs ys : List PV} {ns ms : List Int}
theorem Room.u64 {A : Around} (r : Room A k) (hk : 9 ≤ k) : A.units + 64 < cLine := by have := r.units; (first | exact ar57 hk this | (first | lia | omega))
theorem Room.u1 {A : Around} (r : Room A k) (hk : 1 ≤ k) : A.units + 1 < cLine := by have := r.units; (first | exact ar58 hk this | (first | lia | omega))
theorem op_ne_ints (h1 : Rep Z v (.list (pInts ns))) (h2 : Rep Z u (.list (pInts ms))) (hk : 9 ≤ k) : Op prog w Z0 k Z (compareOp .NotEq v u) (.bool (!decide (ns = ms))) := fun s A E r hi => by
  obtain ⟨l, vs, rfl, hl, r1⟩ := h1.isList hi
  obtain ⟨l', vs', rfl, hl', r2⟩ := h2.isList hi
  exact ke_ne_ints hl hl' r1.toInts r2.toInts (r.u64 hk) ⟨Z, .refl hi, .bool _⟩
theorem same_pair (a b c d : Int) : PySem.Spec.same (.tuple [.int a, .int b]) (.tuple [.int c, .int d]) = (a == c && b == d) := by
  simp [PySem.Spec.same, PySem.Spec.sameAll]
theorem op_eq_pair {a b c d : Int} (h1 : Rep Z v (.tup [.int a, .int b])) (h2 : Rep Z u (.tup [.int c, .int d])) (hk : 9 ≤ k) : Op prog w Z0 k Z (compareOp .Eq v u) (.bool (a == c && b == d)) := fun s A E r hi => by
  obtain ⟨l, vs, rfl, ⟨o, ho, hc, n, hd⟩, r1⟩ := h1.isTup hi
  obtain ⟨l', vs', rfl, ⟨o', ho', hc', n', hd'⟩, r2⟩ := h2.isTup hi
  obtain ⟨_, _, rfl, x1, x2⟩ := r1.two_inv
  obtain ⟨_, _, rfl, y1, y2⟩ := r2.two_inv
  obtain ⟨t1, rfl⟩ := x1.isInt; obtain ⟨t2, rfl⟩ := x2.isInt; obtain ⟨t3, rfl⟩ := y1.isInt; obtain ⟨t4, rfl⟩ := y2.isInt
  refine eq_dataH_same (reads_tuple_at ho hc hd (.cons (.int a t1) (.cons (.int b t2) .nil))) (reads_tuple_at ho' hc' hd' (.cons (.int c t3) (.cons (.int d t4) .nil))) rfl rfl (r.u64 hk) rfl ?_
  rw [same_pair]
  exact ⟨Z, .refl hi, .bool _⟩
noncomputable def pLists (nss : List (List Int)) : List PV := nss.map fun ns => .list (pInts ns)
theorem readsAll_lists {h : Heap} (hi : InH Z h) {vs : List Value} {nss : List (List Int)} (x : RepL Z vs (pLists nss)) : ∃ as, ReadsAll h vs (nss.map fun ns => PyData.list (ns.map PyData.int)) as := by
  induction nss generalizing vs with
  | nil => cases x.nil_inv; exact ⟨_, .nil⟩
  | cons ns nss ih =>
    obtain ⟨v, ws, rfl, x, r⟩ := RepL.cons_inv (d := .list (pInts ns)) (ds := pLists nss) x
    obtain ⟨as, q⟩ := ih r
    obtain ⟨l, us, rfl, hl, r1⟩ := x.isList hi
    exact ⟨_, .cons (reads_newData hl (ke_carried r1.toInts)) q⟩
theorem ke_canLayAll0L : ∀ nss : List (List Int), PyData.canLayAll0 (nss.map fun ns => PyData.list (ns.map PyData.int)) = true
  | [] => rfl
  | ns :: r => by simp [PyData.canLayAll0, PyData.canLay0, ke_canLayAll0L r, ke_canLayAll0]
theorem ke_depthAllL : ∀ nss : List (List Int), PyData.depthAll (nss.map fun ns => PyData.list (ns.map PyData.int)) ≤ 1
  | [] => by simp [PyData.depthAll]
  | ns :: r => by have := ke_depthAllL r; simp [PyData.depthAll, PyData.depth, ke_depthAll]; (first | exact ar59 this | (first | lia | omega))
theorem shaped_lists (nss : List (List Int)) : SeqAt.shaped (.list (nss.map fun ns => PyData.list (ns.map PyData.int))) = true := by
  have := ke_depthAllL nss
  simp [SeqAt.shaped, PyData.canLay0, PyData.depth, ke_canLayAll0L]
  (first | exact ar60 this | (first | lia | omega))
theorem same_lists : ∀ nss mss : List (List Int), PySem.Spec.sameAll (nss.map fun ns => PyData.list (ns.map PyData.int)) (mss.map fun ns => PyData.list (ns.map PyData.int)) = decide (nss = mss)
  | [], [] => by simp [PySem.Spec.sameAll]
  | [], _ :: _ => by simp [PySem.Spec.sameAll]
  | _ :: _, [] => by simp [PySem.Spec.sameAll]
  | a :: r, b :: t => by
    simp only [List.map_cons, PySem.Spec.sameAll, ke_same, same_lists r t]
    by_cases h : a = b <;> by_cases h' : r = t <;> simp [h, h']
theorem op_ne_lists {nss mss : List (List Int)} (h1 : Rep Z v (.list (pLists nss))) (h2 : Rep Z u (.list (pLists mss))) (hk : 9 ≤ k) : Op prog w Z0 k Z (compareOp .NotEq v u) (.bool (!decide (nss = mss))) := fun s A E r hi => by
  obtain ⟨l, vs, rfl, ⟨o, ho, hc, n, hd⟩, r1⟩ := h1.isList hi
  obtain ⟨l', vs', rfl, ⟨o', ho', hc', n', hd'⟩, r2⟩ := h2.isList hi
  obtain ⟨as, q1⟩ := readsAll_lists hi r1
  obtain ⟨bs, q2⟩ := readsAll_lists hi r2
  refine ne_dataH_same (reads_list_at ho hc hd q1) (reads_list_at ho' hc' hd' q2) (shaped_lists _) (shaped_lists _) (r.u64 hk) (SeqAt.noMix_of_shape (.list (.list .int)) rfl _ _ (list_map_has fun _ => list_map_has fun _ => rfl) (list_map_has fun _ => list_map_has fun _ => rfl)) ?_
  have : PySem.Spec.same (.list (nss.map fun ns => PyData.list (ns.map PyData.int))) (.list (mss.map fun ns => PyData.list (ns.map PyData.int))) = decide (nss = mss) := by
    simp only [PySem.Spec.same]; exact same_lists nss mss
  rw [this]
  exact ⟨Z, .refl hi, .bool _⟩
theorem op_ne_str {x y : Str} (h1 : Rep Z v (.str x)) (h2 : Rep Z u (.str y)) (hk : 9 ≤ k) : Op prog w Z0 k Z (compareOp .NotEq v u) (.bool (!(x == y))) := fun s A E r hi => by
  obtain ⟨t, rfl⟩ := h1.isStr; obtain ⟨t', rfl⟩ := h2.isStr
  exact SeqAt.RcNeAt.str_str x t y t' prog w E _ ⟨Z, .refl hi, .bool _⟩
/-- built-in functions -/
theorem op_len (h1 : Rep Z v (.list xs)) (hz : xs.length ≤ 100000) : Op prog w Z0 k Z (call (.builtin "len") [v]) (.int xs.length) := fun s A E r hi => by
  obtain ⟨l, vs, rfl, hl, r1⟩ := h1.isList hi
  have := r1.length
  refine call_len_list hl (by rw [List.size_toArray]; (first | exact ar61 hz this | (first | lia | omega))) ?_
  rw [List.size_toArray, this]
  exact ⟨Z, .toks hi, .int _ _⟩
theorem op_range (h1 : Rep Z v (.int a)) (ha : 0 ≤ a) : Op prog w Z0 k Z (call (.type "range") [v]) (.range a.toNat) := fun s A E r hi => by
  obtain ⟨t, rfl⟩ := h1.isInt
  refine call_range_1 ⟨_, Ext.push hi (Tb.ty rfl) rfl (s.toks + 1 + 1), ?_⟩
  have : a = (a.toNat : Int) := by (first | exact ar62 ha | (first | lia | omega))
  refine Rep.range (t := s.toks) (u := t) (v := s.toks + 1) ?_
  rw [← this]
  exact Fz.add_self ..
theorem op_list (h1 : Rep Z v (.list xs)) (hz : xs.length ≤ 100000) : Op prog w Z0 k Z (call (.type "list") [v]) (.list xs) := fun s A E r hi => by
  cases h1 with
  | @list l o n vs _ e c _ d r1 =>
    have := r1.length
    refine call_list_seq l (.inl rfl) (hi.get e) c d (fun h' c' hk ho => ?_) (by rw [List.size_toArray, sizeLine_eq]; (first | exact ar63 hz this | (first | lia | omega)))
    have ex := Ext.add (t := s.toks) hi hk (get?_size _) ho (Tb.ty rfl)
    exact ⟨_, ex, .list (Fz.add_self ..) rfl rfl rfl (r1.mono ex.le)⟩
noncomputable def sumI (ns : List Int) : Int := preSum (fun j => (ns[j]?).getD 0) ns.length
theorem ints_pairs {vs : List Value} {ns : List Int} (x : IntsAre vs ns) : ∃ ps : List (Int × Tok), vs = ps.map (fun p => Value.int p.1 p.2) ∧ ps.map (·.1) = ns := by
  induction x with
  | nil => exact ⟨[], rfl, rfl⟩
  | cons n t _ ih =>
    obtain ⟨ps, rfl, rfl⟩ := ih
    exact ⟨(n, t) :: ps, rfl, rfl⟩
theorem op_sum (h1 : Rep Z v (.list (pInts ns))) : Op prog w Z0 k Z (call (.builtin "sum") [v]) (.int (sumI ns)) := fun s A E r hi => by
  obtain ⟨l, vs, rfl, hl, r1⟩ := h1.isList hi
  obtain ⟨ps, rfl, rfl⟩ := ints_pairs r1.toInts
  have hl' : s.heap.IsList l (intItems ps.toArray) := by simpa [intItems] using hl
  refine sum_intListG r.handled hl' fun h' tk t' hk => ⟨Z, .keeps hi hk, ?_⟩
  have e : preSum (numAt ps.toArray) ps.toArray.size = sumI (ps.map (·.1)) := by
    unfold sumI
    rw [List.length_map, List.size_toArray]
    congr 1
    funext j
    simp [numAt]
  rw [e]
  exact .int _ _
/-- slices -/
noncomputable def PartEv (prog : Program) (w : World) (Z0 : Fz) (k : Nat) (env : Env) (ρ : PEnv) (x : Option Expr) (lo : Option Int) : Prop := match x, lo with
  | none, none => True
  | some e, some i => Ev prog w Z0 k env ρ e (.int i)
  | _, _ => False
theorem PartEv.no {env : Env} {ρ : PEnv} : PartEv prog w Z0 k env ρ Option.none Option.none := trivial
theorem PartEv.so {env : Env} {ρ : PEnv} {e : Expr} {i : Int} (h : Ev prog w Z0 k env ρ e (.int i)) : PartEv prog w Z0 k env ρ (Option.some e) (Option.some i) := h
theorem PartEv.ev {env : Env} {ρ : PEnv} {x : Option Expr} {lo : Option Int} (h : PartEv prog w Z0 k env ρ x lo) {S Z : Fz} {s : Shared} {A : Around} {E : Value → Shared → Prop} (r : Room A k) (p : Pre Z0 S Z env ρ s) :
    wpAny (model prog w) A (evalPart x env) (fun v s' => IsPart v lo ∧ ∃ Z', Ext s Z s' Z') E s := by
  match x, lo, h with
  | none, none, _ => exact wpAny_pure ⟨.none, Z, .refl p.fin⟩
  | some e, some i, h =>
    refine wpAny_mono (h S Z s A E r p) (fun v s' q => ?_) fun _ _ x => x
    obtain ⟨Z', e', q⟩ := q
    obtain ⟨t, rfl⟩ := q.isInt
    exact ⟨.int _ _, Z', e'⟩
theorem Ev.slice {env : Env} {ρ : PEnv} {value : Expr} {lower upper step : Option Expr} {lo hi st : Option Int} {p pos : Pos} (hv : Ev prog w Z0 k env ρ value (.list xs)) (h1 : PartEv prog w Z0 k env ρ lower lo) (h2 : PartEv prog w Z0 k env ρ upper hi) (h3 : PartEv prog w Z0 k env ρ step st)
    (h0 : st ≠ some 0) (hz : xs.length ≤ 100000) (hp : ∀ (Z : Fz) (vs : List Value), RepL Z vs xs → RepL Z (slicePick vs.toArray lo hi st).toList ys) (ht : ∀ o r, letTemporaryGo value o r = pure () := by intro _ _; rfl) :
    Ev prog w Z0 k env ρ (.Subscript value (.Slice lower upper step p) pos) (.list ys) := fun S Z s A E r pr => by
  have main : wpAny (model prog w) A (eval value env) (fun o s₁ => wpAny (model prog w) A (eval (.Slice lower upper step p) env) (fun i s₂ => s₂.TypeIs o "list" ∧ wpAny (model prog w) A (getItem o i) (Post s Z (.list ys)) E s₂) E s₁) E s := by
    refine wpAny_mono (hv S Z s A E r pr) (fun o s₁ q => ?_) fun _ _ x => x
    obtain ⟨Z₁, e₁, r₁⟩ := q
    have p₁ := pr.ext e₁
    refine wpAny_Slice (wpAny_mono (h1.ev r p₁) (fun vl s₂ q => ?_) fun _ _ x => x)
    obtain ⟨pl, Z₂, e₂⟩ := q
    have p₂ := p₁.ext e₂
    refine wpAny_mono (h2.ev r p₂) (fun vu s₃ q => ?_) fun _ _ x => x
    obtain ⟨pu, Z₃, e₃⟩ := q
    have p₃ := p₂.ext e₃
    refine wpAny_mono (h3.ev r p₃) (fun vs' s₄ q => ?_) fun _ _ x => x
    obtain ⟨ps, Z₄, e₄⟩ := q
    have p₄ := p₃.ext e₄
    obtain ⟨l, vs, rfl, hl, r2⟩ := (r₁.mono (e₂.le.trans (e₃.le.trans e₄.le))).isList p₄.fin
    have := r2.length
    refine ⟨(hl.push _).typeIs, wpAny_getItem_list_slice (hl.push _) (Heap.IsSliceOf.new ..) pl pu ps h0 ?_ (by rw [List.size_toArray, sizeLine_eq]; (first | exact ar63 hz this | (first | lia | omega)))⟩
    have e₅ : Ext s₄ Z₄ { s₄ with heap := s₄.heap.push { cls := .type "slice", data := .fields #[vl, vu, vs'] } } Z₄ := Ext.keeps (t := s₄.toks) p₄.fin fun _ _ e => Heap.get?_push_of_some _ e
    have e₆ := Ext.push (s := { s₄ with heap := s₄.heap.push { cls := .type "slice", data := .fields #[vl, vu, vs'] } }) (Z := Z₄) (o := { cls := .type "list", data := .seq (slicePick vs.toArray lo hi st) }) e₅.fin (Tb.ty rfl) rfl s₄.toks
    exact ⟨_, ((((e₁.trans e₂).trans e₃).trans e₄).trans e₅).trans e₆, .list (vs := (slicePick vs.toArray lo hi st).toList) (n := 0) (Fz.add_self ..) rfl rfl (by simp) ((hp Z₄ vs r2).mono e₆.le)⟩
  match step, st, h3 with
  | none, none, _ => exact wpAny_Subscript_Slice slot_list_getitem.lookup main ht
  | some e, some i, _ => exact wpAny_Subscript_Slice_step slot_list_getitem.lookup main ht
theorem pick_rev {vs : List Value} (r : RepL Z vs xs) : RepL Z (slicePick vs.toArray none none (some (-1))).toList xs.reverse := by
  rw [krv_pick]; simpa using r.rev
theorem clip_nat {x : Int} {n : Nat} (h : 0 ≤ x) : max 0 (min x (n : Int)) = ((min x.toNat n : Nat) : Int) := by
  obtain ⟨m, rfl⟩ := Int.eq_ofNat_of_zero_le h
  rcases Nat.le_total m n with h | h
  · rw [Int.toNat_natCast, Nat.min_eq_left h, Int.min_eq_left (Int.ofNat_le.mpr h)]; exact Int.max_eq_right (Int.natCast_nonneg _)
  · rw [Int.toNat_natCast, Nat.min_eq_right h, Int.min_eq_right (Int.ofNat_le.mpr h)]; exact Int.max_eq_right (Int.natCast_nonneg _)
theorem min_sub (a b n : Nat) : min b n - min a n = min b n - a := by
  rcases Nat.le_total a n with h | h
  · rw [Nat.min_eq_left h]
  · rw [Nat.min_eq_right h, Nat.sub_eq_zero_of_le (Nat.min_le_right b n), Nat.sub_eq_zero_of_le (Nat.le_trans (Nat.min_le_right b n) h)]
theorem pick_upto {vs : List Value} {y : Int} (r : RepL Z vs xs) (h : 0 ≤ y) : RepL Z (slicePick vs.toArray none (some y) none).toList (xs.take y.toNat) := by
  have e : sliceBounds none (some y) none vs.toArray.size = (((0 : Nat) : Int), ((min y.toNat vs.toArray.size : Nat) : Int), 1) := by
    simp only [sliceBounds, Option.getD_none, show (1 : Int) > 0 by decide, if_true, if_neg (show ¬ (y < 0) by (first | exact ar13 h | (first | lia | omega)))]
    rw [clip_nat h]; rfl
  rw [kmk_pick_nat _ e]
  show RepL Z ((vs.drop 0).take (min y.toNat vs.toArray.size - 0)) _
  rw [List.drop_zero, Nat.sub_zero, List.size_toArray, kmk_take_min]
  exact r.take _
theorem pick_run' {vs : List Value} {x y : Int} (r : RepL Z vs xs) (h : 0 ≤ x) (h2 : 0 ≤ y) : RepL Z (slicePick vs.toArray (some x) (some y) none).toList ((xs.drop x.toNat).take (min y.toNat xs.length - x.toNat)) := by
  have e : sliceBounds (some x) (some y) none vs.toArray.size = (((min x.toNat vs.toArray.size : Nat) : Int), ((min y.toNat vs.toArray.size : Nat) : Int), 1) := by
    simp only [sliceBounds, Option.getD_none, show (1 : Int) > 0 by decide, if_true, if_neg (show ¬ (x < 0) by (first | exact ar13 h | (first | lia | omega))), if_neg (show ¬ (y < 0) by (first | exact ar13 h2 | (first | lia | omega)))]
    rw [clip_nat h, clip_nat h2]
  rw [kmk_pick_nat _ e]
  show RepL Z ((vs.drop (min x.toNat vs.toArray.size)).take (min y.toNat vs.toArray.size - min x.toNat vs.toArray.size)) _
  rw [List.size_toArray, kmk_drop_min, r.length, min_sub]
  exact (r.drop _).take _
noncomputable def pickI (ns : List Int) (lo hi st : Option Int) : List Int := (sliceRange (sliceBounds lo hi st ns.length).1 (sliceBounds lo hi st ns.length).2.1 (sliceBounds lo hi st ns.length).2.2).filterMap (ns[·]?)
theorem pick_any {vs : List Value} {lo hi st : Option Int} (r : RepL Z vs (pInts ns)) : RepL Z (slicePick vs.toArray lo hi st).toList (pInts (pickI ns lo hi st)) := by
  have hl : vs.length = ns.length := by rw [r.length]; simp [pInts]
  unfold slicePick pickI
  rw [List.size_toArray, hl]
  generalize sliceRange _ _ _ = is
  simp only
  induction is with
  | nil => exact .nil
  | cons i is ih =>
    cases q : ns[i]? with
    | none =>
      have q' : vs[i]? = none := by rw [List.getElem?_eq_none_iff] at q ⊢; (first | exact ar64 hl q | (first | lia | omega))
      simpa [q, q'] using ih
    | some m =>
      obtain ⟨v', hv', rv⟩ := r.get' (i := i) (d := .int m) (by simp [pInts, q])
      simp only [List.filterMap_cons, q, List.getElem?_toArray, hv']
      exact .cons rv (by simp only [List.getElem?_toArray] at ih; exact ih)
end
end Mq
set_option tactic.hygienic false
namespace Mq
open PySem PySem.Spec PySem.Calls PyProof.Rows PySem.W
abbrev prg : Program := PySem.Challenge.pw_mq0081_01
noncomputable abbrev hK (w : World) : Frag := hx.heap_39 w.params
structure Kit (w : World) (Z0 : Fz) (mg mb : Str → Option Value) : Prop where
  base : Base Z0 mg mb
  top : ∀ a o, (hK w).lookup a = some o → o.cls ≠ .none → Z0 a = some o
  glob : ∀ n v, nsIn (hK w) 3 n = some (some v) → mg n = some v
  gnone : ∀ n, nsIn (hK w) 3 n = some none → mg n = none
  blt : ∀ x : Str, x ≠ "__name__" → mb x = bootBuiltins x
  bm : ∃ bm ob, mg "__builtins__" = some (.ref bm) ∧ Z0 bm = some ob ∧ ob.cls = .type "module" ∧ ob.dict = some builtinsNs ∧ ob.data = .plain
theorem two_of {vs : List Value} (e : vs.length = 2) : ∃ a b, vs = [a, b] := by
  cases vs with
  | nil => cases e
  | cons a t => obtain ⟨b, rfl⟩ := List.length_eq_one_iff.mp (Nat.succ.inj e); exact ⟨a, b, rfl⟩
theorem three_of {vs : List Value} (e : vs.length = 3) : ∃ a b c, vs = [a, b, c] := by
  cases vs with
  | nil => cases e
  | cons a t => obtain ⟨b, c, rfl⟩ := two_of (Nat.succ.inj e); exact ⟨a, b, c, rfl⟩
theorem bind1 {fd : FuncData} {names : List Str} (h : ∀ a, bindArgs fd ⟨[a], []⟩ = pure (names.zip [a])) : ∀ vs : List Value, vs.length = 1 → bindArgs fd ⟨vs, []⟩ = pure (names.zip vs) := fun vs e => by
  obtain ⟨a, rfl⟩ := List.length_eq_one_iff.mp e; exact h a
theorem bind2 {fd : FuncData} {names : List Str} (h : ∀ a b, bindArgs fd ⟨[a, b], []⟩ = pure (names.zip [a, b])) : ∀ vs : List Value, vs.length = 2 → bindArgs fd ⟨vs, []⟩ = pure (names.zip vs) := fun vs e => by
  obtain ⟨a, b, rfl⟩ := two_of e; exact h a b
theorem bind3 {fd : FuncData} {names : List Str} (h : ∀ a b c, bindArgs fd ⟨[a, b, c], []⟩ = pure (names.zip [a, b, c])) : ∀ vs : List Value, vs.length = 3 → bindArgs fd ⟨vs, []⟩ = pure (names.zip vs) := fun vs e => by
  obtain ⟨a, b, c, rfl⟩ := three_of e; exact h a b c
variable {w : World} {Z0 : Fz} {mg mb : Str → Option Value}
theorem Kit.topT (K : Kit w Z0 mg mb) {T : String} (a : Addr) (o : Obj) (h : (hK w).lookup a = some o) (hc : o.cls = .type T) : Z0 a = some o := K.top a o h fun e => by rw [hc] at e; cases e
theorem Kit.code (K : Kit w Z0 mg mb) {c : Addr} {o : Obj} {vs : Array Value} {q : Str} {t : Tok} (h : (hK w).lookup c = some o) (hc : o.cls ≠ .none) (hd : o.data = .fields vs) (hv : vs[1]? = some (.str q t)) : ∀ h, InH Z0 h → h.CodeRec (.ref c) q :=
  fun h' hi => ⟨c, o, vs, t, rfl, hi.get (K.top c o h hc), hd, hv⟩
theorem Kit.codeT (K : Kit w Z0 mg mb) {c : Addr} {o : Obj} {vs : Array Value} {q : Str} {t : Tok} (h : (hK w).lookup c = some o) (hc : o.cls = .type "code") (hd : o.data = .fields vs) (hv : vs[1]? = some (.str q t)) : ∀ h, InH Z0 h → h.CodeRec (.ref c) q :=
  fun h' hi => ⟨c, o, vs, t, rfl, hi.get (K.topT c o h hc), hd, hv⟩
theorem Kit.gl (K : Kit w Z0 mg mb) {n : Str} {v : Value} (h : nsIn (hK w) 3 n = some (some v)) : Glob mg mb n v := .inl (K.glob n v h)
theorem Kit.bl (K : Kit w Z0 mg mb) {n : Str} {v : Value} (h : nsIn (hK w) 3 n = some none) (hb : bootBuiltins n = some v) (hn : n ≠ "__name__" := by decide) : Glob mg mb n v := .inr ⟨K.gnone n h, by rw [K.blt n hn, hb]⟩
theorem fn_ISTERMINAL (K : Kit w Z0 mg mb) (i : Int) : Fn prg w Z0 1 (.ref 37) [.int i] (.bool (decide (i < 256))) := by
  refine Fn.mk (names := ["x"]) K.base (K.topT 37 _ rfl rfl) rfl (K.codeT rfl rfl rfl rfl) rfl rfl rfl (bind1 fun a => rfl) (by decide) (by decide) rfl rfl (fun L => ?_)
  exact Bd.ret (Ev.cmp (Ev.name rfl) (Ev.glob K.base (K.gl rfl) fun Z _ => .int _ _) fun Z v u _ h1 h2 => op_lt_int h1 h2)
theorem fn_ISEOF (K : Kit w Z0 mg mb) (i : Int) : Fn prg w Z0 1 (.ref 44) [.int i] (.bool (i == 0)) := by
  refine Fn.mk (names := ["x"]) K.base (K.topT 44 _ rfl rfl) rfl (K.codeT rfl rfl rfl rfl) rfl rfl rfl (bind1 fun a => rfl) (by decide) (by decide) rfl rfl (fun L => ?_)
  exact Bd.ret (Ev.cmp (Ev.name rfl) (Ev.glob K.base (K.gl rfl) fun Z _ => .int _ _) fun Z v u _ h1 h2 => op_eq_int h1 h2)
noncomputable def letter (x : Int) : Int := ([0, 1, 1, 1, 2, 2, 2, 255] : List Int).getD (x.fmod 8).toNat 0
noncomputable def tailNs : List Int := [1, 4, 1, 4, 7, 0, 4, 1, 4, 7, 0, 7, 4, 7]
noncomputable def rowOf (ns : List Int) : List Int := (ns ++ tailNs).map letter ++ [0]
theorem fn_row (K : Kit w Z0 mg mb) (ns : List Int) (hn : ns.length ≤ 12) : Fn prg w Z0 1 (.ref 49) [.list (pInts ns)] (.list (pInts (rowOf ns))) := by
  refine Fn.mk (names := ["numbers"]) K.base (K.topT 49 _ rfl rfl) rfl (K.codeT rfl rfl rfl rfl) rfl rfl rfl (bind1 fun a => rfl) (by decide) (by decide) rfl rfl (fun L => ?_)
  refine Bd.ret (Ev.binop (a := .list (pInts ((ns ++ tailNs).map letter))) (b := .list (pInts [0])) ?_ (Ev.list (by repeat (first | refine Evs.cons Ev.int ?_ | exact Evs.nil))) ?_)
  · have hg : (ns ++ tailNs).flatMap (fun x => [PV.int (letter x)]) = pInts ((ns ++ tailNs).map letter) := by rw [← List.map_eq_flatMap]; simp [pInts]; rfl
    refine Ev.comp1 (l := ns ++ tailNs) (emb := PV.int) [] _ hg (.list _) ?_ rfl (fun C => Cap.nil) ?_ (fun C x hx => ?_)
    · refine Ev.binop (a := .list (pInts ns)) (b := .list (pInts tailNs)) (Ev.name rfl) (Ev.list ?_) fun Z v u _ h1 h2 => ?_
      · repeat (first | refine Evs.cons Ev.int ?_ | exact Evs.nil)
      have := op_cat (prog := prg) (w := w) (Z0 := Z0) (k := 0) h1 h2 (by simp [pInts, tailNs]; (first | exact ar65 hn | (first | lia | omega)))
      simpa [pInts] using this
    · simp [pInts, tailNs]; (first | exact ar66 hn | (first | lia | omega))
    · refine ⟨_, Tg.name (.inl rfl), AllFz.nil.cons, fun x sl h => by simp at h, .inr ⟨Trs.nil, _, rfl, ?_⟩⟩
      refine Ev.sub (a := .tup (pInts [0, 1, 1, 1, 2, 2, 2, 255])) (b := .int (x.fmod 8)) (Ev.tuple (by repeat (first | refine Evs.cons Ev.int ?_ | exact Evs.nil))) (Ev.binop (a := .int x) (b := .int 8) (Ev.name rfl) Ev.int fun Z v u _ h1 h2 => op_mod h1 h2 (by decide)) fun Z v u _ h1 h2 => op_item_tup h1 h2 ?_ ?_ ?_
      · exact Int.fmod_nonneg_of_pos _ (by decide)
      · have h0 : 0 ≤ x.fmod 8 := Int.fmod_nonneg_of_pos _ (by decide)
        have h8 : x.fmod 8 < 8 := Int.fmod_lt_of_pos _ (by decide)
        have h9 : (x.fmod 8).toNat < 8 := by (first | exact ar67 h8 | (first | lia | omega))
        unfold letter
        generalize (x.fmod 8).toNat = m at h9
        match m, h9 with
        | 0, _ => rfl
        | 1, _ => rfl
        | 2, _ => rfl
        | 3, _ => rfl
        | 4, _ => rfl
        | 5, _ => rfl
        | 6, _ => rfl
        | 7, _ => rfl
      · decide
  · intro Z v u _ h1 h2
    have := op_cat (prog := prg) (w := w) (Z0 := Z0) (k := 0) h1 h2 (by simp [pInts, tailNs]; (first | exact ar68 hn | (first | lia | omega)))
    simpa [pInts, rowOf] using this
end Mq
set_option tactic.hygienic false
namespace Mq
open PySem PySem.Spec PySem.Calls PyProof.Rows PySem.W
variable {w : World} {Z0 : Fz} {mg mb : Str → Option Value}
structure Rule where
  new : Int
  a : Int
  b : Int
noncomputable def Rule.pv (r : Rule) : PV := .tup [.int r.new, .tup [.int r.a, .int r.b]]
noncomputable def packStep (r : Rule) (acc : List Int) (s : Int) : List Int := if acc ≠ [] ∧ acc.getLast? = some r.a ∧ s = r.b then acc.dropLast ++ [r.new] else acc ++ [s]
noncomputable def packOf (r : Rule) (row : List Int) : List Int := row.foldl (packStep r) []
theorem packStep_len (r : Rule) (acc : List Int) (s : Int) : (packStep r acc s).length ≤ acc.length + 1 := by
  unfold packStep; split <;> simp <;> (first | lia | omega)
theorem packFold_len (r : Rule) : ∀ (row acc : List Int), (row.foldl (packStep r) acc).length ≤ acc.length + row.length
  | [], acc => by simp
  | s :: row, acc => by
    have := packFold_len r row (packStep r acc s)
    have := packStep_len r acc s
    simp only [List.foldl_cons, List.length_cons]; (first | exact ar23 (by assumption) this | (first | lia | omega))
theorem packOf_len (r : Rule) (row : List Int) : (packOf r row).length ≤ row.length := by have := packFold_len r row []; simpa [packOf] using this
theorem set_last (xs : List Int) (d : Int) (h : xs ≠ []) : (pInts xs).set (-1 + ((pInts xs).length : Int)).toNat (.int d) = pInts (xs.dropLast ++ [d]) := by
  have hp : 0 < xs.length := List.length_pos_iff.mpr h
  have e : (-1 + ((pInts xs).length : Int)).toNat = xs.length - 1 := by simp [pInts]; (first | exact ar119 | (first | lia | omega))
  rw [e]
  conv => lhs; rw [← List.dropLast_concat_getLast h]
  simp [pInts, List.set_append]
theorem fn_pack (K : Kit w Z0 mg mb) (r : Rule) (row : List Int) (hn : row.length ≤ 500) : Fn prg w Z0 20 (.ref 56) [.list (pInts row), r.pv] (.list (pInts (packOf r row))) := by
  refine Fn.mk (names := ["row", "rule"]) K.base (K.topT 56 _ rfl rfl) rfl (K.codeT rfl rfl rfl rfl) rfl rfl rfl (bind2 fun a b => rfl) (by decide) (by decide) rfl rfl (fun L => ?_)
  refine Bd.cons (X1.newList (.inl rfl)) (Bd.cons (X1.loop (.list (pInts row)) (Ev.name rfl) (fun i => [("packed", .own (pInts ((row.take i).foldl (packStep r) []))), ("row", .fz (.list (pInts row))), ("rule", .fz r.pv)]) ?_ ?_) ?_)
  · intro x sl h; exact h
  · intro i x hx
    obtain ⟨n, hn', rfl⟩ : ∃ n, row[i]? = some n ∧ PV.int n = x := by simpa [pInts] using hx
    refine ⟨_, Tg.name (.inl rfl), ?_⟩
    have hlen : ((row.take i).foldl (packStep r) []).length ≤ 500 := by
      have := packFold_len r (row.take i) []
      simp at this; (first | exact ar120 hn this | (first | lia | omega))
    have hstep : (row.take (i + 1)).foldl (packStep r) [] = packStep r ((row.take i).foldl (packStep r) []) n := by
      rw [List.take_add_one, hn', List.foldl_append]; rfl
    rw [hstep]
    generalize (row.take i).foldl (packStep r) [] = acc at hlen
    have hl : (pInts acc).length = acc.length := by simp [pInts]
    refine Ex.cons (X1.cond (c := decide (acc ≠ []) && (acc.getLast?.getD 0 == r.a && n == r.b)) (ρ₁ := [("packed", .own (pInts (packStep r acc n))), ("row", .fz (.list (pInts row))), ("rule", .fz r.pv)]) ?_ (fun hc => ?_) (fun hc => ?_)) Ex.nil'
    · refine Tr.own (x := "packed") rfl (Tr.and2 ?_ fun hne => ?_)
      · have : decide (acc ≠ []) = !decide (acc = []) := by simp
        rw [this]
        exact Tr.cmp (b := .list (pInts [])) (Ev.name rfl) (Ev.list Evs.nil) fun Z v u _ h1 h2 => op_ne_ints h1 h2 (by decide)
      · have hne' : acc ≠ [] := by simpa using hne
        have hp : 0 < acc.length := List.length_pos_iff.mpr hne'
        refine Tr.cmp (a := .tup [.int (acc.getLast?.getD 0), .int n]) (b := .tup [.int r.a, .int r.b]) (Ev.tuple (Evs.cons ?_ (Evs.cons (Ev.name rfl) Evs.nil))) ?_ fun Z v u _ h1 h2 => op_eq_pair h1 h2 (by decide)
        · refine Ev.sub (a := .list (pInts acc)) (b := .int (-1)) (Ev.name rfl) Ev.neg1 fun Z v u _ h1 h2 => op_item_list_neg h1 h2 (by decide) (by rw [hl]; (first | exact ar121 hp | (first | lia | omega))) ?_ (by (first | exact ar25 hlen hl | (first | lia | omega)))
          have : (-1 + ((pInts acc).length : Int)).toNat = acc.length - 1 := by rw [hl]; (first | exact ar119 | (first | lia | omega))
          rw [this]
          simp [pInts, List.getLast?_eq_getElem?, List.getElem?_eq_getElem (show acc.length - 1 < acc.length by (first | exact ar122 hp | (first | lia | omega)))]
        · exact Ev.sub (a := r.pv) (b := .int 1) (Ev.name rfl) Ev.int fun Z v u _ h1 h2 => op_item_tup h1 h2 (by decide) rfl (by simp)
    · have hc' : acc ≠ [] ∧ (acc.getLast?.getD 0 = r.a ∧ n = r.b) := by simpa using hc
      have hp : 0 < acc.length := List.length_pos_iff.mpr hc'.1
      have hps : packStep r acc n = acc.dropLast ++ [r.new] := by
        unfold packStep
        rw [if_pos]
        refine ⟨hc'.1, ?_, hc'.2.2⟩
        rw [← hc'.2.1, List.getLast?_eq_some_getLast hc'.1]; rfl
      rw [hps, ← set_last _ _ hc'.1]
      exact Ex.cons (X1.setOwn (i := -1) (d := .int r.new) rfl (Ev.sub (a := r.pv) (b := .int 0) (Ev.name rfl) Ev.int fun Z v u _ h1 h2 => op_item_tup h1 h2 (by decide) rfl (by simp)) Ev.neg1 (by decide) (by rw [hl]; (first | exact ar121 hp | (first | lia | omega))) (by (first | exact ar123 hlen hl | (first | lia | omega)))) (Ex.nil (Sub.cons rfl (Sub.cons rfl (Sub.cons rfl Sub.nil))))
    · have hps : packStep r acc n = acc ++ [n] := by
        unfold packStep
        rw [if_neg]
        rintro ⟨h1, h2, h3⟩
        rw [h2, h3] at hc
        simp [h1] at hc
      have : pInts (packStep r acc n) = pInts acc ++ [.int n] := by rw [hps]; simp [pInts]
      rw [this]
      exact Ex.cons (X1.append rfl (Ev.name rfl) (by (first | exact ar123 hlen hl | (first | lia | omega)))) (Ex.nil (Sub.cons rfl (Sub.cons rfl (Sub.cons rfl Sub.nil))))
  · have : (pInts row).length = row.length := by simp [pInts]
    rw [this, List.take_length]
    exact Bd.ret_own rfl
end Mq
set_option tactic.hygienic false
namespace Mq
open PySem PySem.Spec PySem.Calls PyProof.Rows PySem.W
variable {w : World} {Z0 : Fz} {mg mb : Str → Option Value}
noncomputable def unp (r : Rule) (x : Int) : List Int := if x = r.new then [r.a, r.b] else [x]
noncomputable def unpackOf (r : Rule) (row : List Int) : List Int := row.flatMap (unp r)
theorem unp_len (r : Rule) (x : Int) : (unp r x).length ≤ 2 := by unfold unp; split <;> simp
theorem unpack_len (r : Rule) : ∀ row : List Int, (row.flatMap (fun x => (unp r x).map PV.int)).length ≤ 2 * row.length
  | [] => by simp
  | x :: row => by
    have := unpack_len r row
    have := unp_len r x
    simp only [List.flatMap_cons, List.length_append, List.length_map, List.length_cons]; (first | exact ar124 (by assumption) this | (first | lia | omega))
theorem fn_unpack (K : Kit w Z0 mg mb) (r : Rule) (row : List Int) (hn : row.length ≤ 500) : Fn prg w Z0 20 (.ref 61) [.list (pInts row), r.pv] (.list (pInts (unpackOf r row))) := by
  refine Fn.mk (names := ["row", "rule"]) K.base (K.topT 61 _ rfl rfl) rfl (K.codeT rfl rfl rfl rfl) rfl rfl rfl (bind2 fun a b => rfl) (by decide) (by decide) rfl rfl (fun L => ?_)
  have e : pInts (unpackOf r row) = row.flatMap (fun x => (unp r x).map PV.int) := by simp [pInts, unpackOf, List.map_flatMap]
  rw [e]
  refine Bd.ret (Ev.comp2 (l := row) (emb := PV.int) [("rule", .fz r.pv)] (unp r) PV.int PV.int (.list _) (Ev.name rfl) rfl (fun C => Cap.cons Cap.nil rfl (.inl rfl) (.inl rfl) rfl) ?_ fun C x hx => ?_)
  · have := unpack_len r row; (first | exact ar125 hn this | (first | lia | omega))
  · refine ⟨_, .tup ((unp r x).map PV.int), Tg.name (.inl rfl), (AllFz.nil.cons).cons, Sub.cons rfl Sub.nil, Trs.nil, .tup _, ?_, (fun _ => rfl), fun y hy => ⟨_, Tg.name (.inl rfl), ((AllFz.nil.cons).cons).cons, Sub.cons rfl (Sub.cons rfl Sub.nil), Trs.nil, Ev.name rfl⟩⟩
    refine Ev.ifexp (c := x == r.new) (Tr.cmp (Ev.name rfl) (Ev.sub (a := r.pv) (b := .int 0) (Ev.name rfl) Ev.int fun Z v u _ h1 h2 => op_item_tup h1 h2 (by decide) rfl (by simp)) fun Z v u _ h1 h2 => op_eq_int h1 h2) (fun hc => ?_) (fun hc => ?_)
    · have : unp r x = [r.a, r.b] := by unfold unp; rw [if_pos (by simpa using hc)]
      rw [this]
      exact Ev.sub (a := r.pv) (b := .int 1) (Ev.name rfl) Ev.int fun Z v u _ h1 h2 => op_item_tup h1 h2 (by decide) rfl (by simp)
    · have : unp r x = [x] := by unfold unp; rw [if_neg (by simpa using hc)]
      rw [this]
      exact Ev.tuple (Evs.cons (Ev.name rfl) Evs.nil)
noncomputable def placeOk (p : List Int) (i : Nat) : Bool := p.getD i 0 != 0 && p.getD (i + 1) 0 != 0
noncomputable def placesOf (p : List Int) : List Nat := (List.range (p.length - 1)).filter (placeOk p)
noncomputable def pickIdx (ns : List Int) (k : Nat) (p : List Int) : Nat := (placesOf p).getD ((sumI (pickI ns (some (k : Int)) none (some 4)) + ([3, 7, 2, 4] : List Int).getD k 0).fmod ((placesOf p).length : Int)).toNat 0
noncomputable def nextRule (ns : List Int) (k : Nat) (p : List Int) : Rule := ⟨256 + k, p.getD (pickIdx ns k p) 0, p.getD (pickIdx ns k p + 1) 0⟩
noncomputable def rulesAt (ns row : List Int) : Nat → List Rule × List Int
  | 0 => ([], row)
  | k + 1 => ((rulesAt ns row k).1 ++ [nextRule ns k (rulesAt ns row k).2], packOf (nextRule ns k (rulesAt ns row k).2) (rulesAt ns row k).2)
theorem rulesAt_len (ns row : List Int) : ∀ k, (rulesAt ns row k).1.length = k
  | 0 => rfl
  | k + 1 => by simp [rulesAt, rulesAt_len ns row k]
theorem rulesAt_plen (ns row : List Int) : ∀ k, (rulesAt ns row k).2.length ≤ row.length
  | 0 => Nat.le_refl _
  | k + 1 => by
    have := rulesAt_plen ns row k
    have := packOf_len (nextRule ns k (rulesAt ns row k).2) (rulesAt ns row k).2
    simp only [rulesAt]; (first | exact ar126 (by assumption) this | (first | lia | omega))
theorem pickIdx_mem (ns : List Int) (k : Nat) (p : List Int) (h : placesOf p ≠ []) : pickIdx ns k p ∈ placesOf p := by
  have hp : 0 < (placesOf p).length := List.length_pos_iff.mpr h
  unfold pickIdx
  generalize hm : ((sumI (pickI ns (some (k : Int)) none (some 4)) + ([3, 7, 2, 4] : List Int).getD k 0).fmod ((placesOf p).length : Int)) = m
  have h0 : 0 ≤ m := by rw [← hm]; exact Int.fmod_nonneg_of_pos _ (by (first | exact ar127 hp | (first | lia | omega)))
  have h1 : m < ((placesOf p).length : Int) := by rw [← hm]; exact Int.fmod_lt_of_pos _ (by (first | exact ar127 hp | (first | lia | omega)))
  have h2 : m.toNat < (placesOf p).length := by (first | exact ar128 hp h1 | (first | lia | omega))
  rw [List.getD_eq_getElem?_getD, List.getElem?_eq_getElem h2]
  exact List.getElem_mem h2
theorem places_flat (p : List Int) : (List.range (p.length - 1)).flatMap (fun i => if placeOk p i then [PV.int (i : Int)] else []) = (placesOf p).map (fun (i : Nat) => PV.int (i : Int)) := by
  unfold placesOf
  generalize List.range (p.length - 1) = l
  induction l with
  | nil => rfl
  | cons a l ih => by_cases h : placeOk p a <;> simp [h, ih]
theorem fn_rules (K : Kit w Z0 mg mb) (ns row : List Int) (hn : row.length ≤ 400) (hns : ns.length ≤ 1000) (hne : ∀ k, k < 4 → placesOf (rulesAt ns row k).2 ≠ []) :
    Fn prg w Z0 30 (.ref 66) [.list (pInts ns), .list (pInts row)] (.tup [.list ((rulesAt ns row 4).1.map Rule.pv), .list (pInts (rulesAt ns row 4).2)]) := by
  refine Fn.mk (names := ["numbers", "row"]) K.base (K.topT 66 _ rfl rfl) rfl (K.codeT rfl rfl rfl rfl) rfl rfl rfl (bind2 fun a b => rfl) (by decide) (by decide) rfl rfl (fun L => ?_)
  refine Bd.cons (X1.newList (.inl rfl)) (Bd.cons (X1.assign (d := .list (pInts row)) (Ev.name rfl) (.inr ⟨rfl, rfl⟩)) (Bd.cons (X1.loop (d := .range 4) (.range 4 (by decide)) ?_ (fun i => [("rules", .own ((rulesAt ns row i).1.map Rule.pv)), ("packed", .fz (.list (pInts (rulesAt ns row i).2))), ("numbers", .fz (.list (pInts ns)))]) ?_ ?_) ?_))
  · exact Ev.callT (Ev.globV K.base (K.bl rfl rfl)) (Evs.cons Ev.int Evs.nil) fun Z vs _ hr => by
      obtain ⟨_, rfl, x1⟩ := hr.one_inv
      exact op_range x1 (by decide)
  · exact Sub.cons rfl (Sub.cons rfl (Sub.cons rfl Sub.nil))
  · intro i x hx
    obtain ⟨hi4, rfl⟩ : i < 4 ∧ PV.int (i : Int) = x := by
      have : i < 4 := by
        have := (List.getElem?_eq_some_iff.mp hx).1
        simpa using this
      refine ⟨this, ?_⟩
      rw [List.getElem?_map, List.getElem?_range this] at hx
      simpa using hx
    have hne' := hne i hi4
    have hpl := rulesAt_plen ns row i
    have hrl := rulesAt_len ns row i
    have hnext : rulesAt ns row (i + 1) = ((rulesAt ns row i).1 ++ [nextRule ns i (rulesAt ns row i).2], packOf (nextRule ns i (rulesAt ns row i).2) (rulesAt ns row i).2) := rfl
    rw [hnext]
    generalize (rulesAt ns row i).2 = p at *
    generalize (rulesAt ns row i).1 = rs at *
    have hmap : (rs ++ [nextRule ns i p]).map Rule.pv = rs.map Rule.pv ++ [(nextRule ns i p).pv] := by simp
    rw [hmap]
    refine ⟨_, Tg.name (.inl rfl), ?_⟩
    have hpi : ∀ j, j < p.length → (pInts p)[j]? = some (.int (p.getD j 0)) := fun j hj => by
      simp [pInts, List.getD_eq_getElem?_getD, List.getElem?_eq_getElem hj]
    have hlp : (pInts p).length = p.length := by simp [pInts]
    have hmem := pickIdx_mem ns i p hne'
    have hlt : pickIdx ns i p + 1 < p.length := by
      have := List.mem_range.mp (List.mem_filter.mp hmem).1
      (first | exact ar72 this | (first | lia | omega))
    have at_ : ∀ {env : Env} {ρ : PEnv} {np sp : Pos} {e : Expr} {j : Nat} (hρ : ρ.lookup ("packed" : Str) = some (.fz (.list (pInts p)))) (hj : j < p.length) (he : Ev prg w Z0 29 env ρ e (.int (j : Int))) (hs : ∀ o j, subscripted e false (.ref o) j = operate [.ref o, j] (getItem (.ref o) j)),
        Ev prg w Z0 29 env ρ (.Subscript (.Name "packed" np) e sp) (.int (p.getD j 0)) := fun {env ρ np sp e j} hρ hj he hs =>
      Ev.sub (a := .list (pInts p)) (b := .int (j : Int)) (Ev.name hρ) he fun Z v u _ h1 h2 => op_item_list h1 h2 (by (first | exact ar24 | (first | lia | omega))) (by rw [Int.toNat_natCast]; exact hpi j hj) (by (first | exact ar129 hn hpl hlp | (first | lia | omega))) hs
    refine Ex.cons (X1.assignComp (l := List.range (p.length - 1)) (emb := fun (j : Nat) => PV.int (j : Int)) [("packed", .fz (.list (pInts p)))] (fun j => if placeOk p j then [PV.int (j : Int)] else []) (places_flat p) (.range (p.length - 1) (by (first | exact ar130 hn hpl | (first | lia | omega)))) ?_ rfl rfl (fun C => Cap.cons Cap.nil rfl (.inl rfl) (.inl rfl) rfl) ?_ rfl (fun C j hj => ?_)) ?_
    · have e : (((pInts p).length : Int) - 1).toNat = p.length - 1 := by rw [hlp]; (first | exact ar131 | (first | lia | omega))
      rw [← e]
      exact Ev.callT (Ev.globV K.base (K.bl rfl rfl)) (Evs.cons (Ev.binop (a := .int (pInts p).length) (b := .int 1) (Ev.callB (Ev.globV K.base (K.bl rfl rfl)) (Evs.cons (Ev.name rfl) Evs.nil) fun Z vs _ hr => by
        obtain ⟨_, rfl, x1⟩ := hr.one_inv
        exact op_len x1 (by (first | exact ar129 hn hpl hlp | (first | lia | omega)))) Ev.int fun Z v u _ h1 h2 => op_sub h1 h2) Evs.nil) fun Z vs _ hr => by
          obtain ⟨_, rfl, x1⟩ := hr.one_inv
          exact op_range x1 (by (first | exact ar132 hlp hlt | (first | lia | omega)))
    · rw [List.length_map]
      have := List.length_filter_le (placeOk p) (List.range (p.length - 1))
      rw [List.length_range] at this
      unfold placesOf; (first | exact ar133 hn hpl this | (first | lia | omega))
    · have hj' : j + 1 < p.length := by have := List.mem_range.mp hj; (first | exact ar72 this | (first | lia | omega))
      refine ⟨_, Tg.name (.inl rfl), AllFz.nil.cons.cons, Sub.cons rfl Sub.nil, ?_⟩
      refine trs_or (b := p.getD j 0 != 0 && p.getD (j + 1) 0 != 0) (Trs.one (Tr.and2 ?_ fun _ => ?_)) (fun h => ?_) (fun h => ⟨.int (j : Int), ?_, Ev.name rfl⟩)
      · exact Tr.cmp (at_ (j := j) rfl (by (first | exact ar134 hj' | (first | lia | omega))) (Ev.name rfl) (by intro _ _; with_unfolding_all rfl)) Ev.int fun Z v u _ h1 h2 => op_ne_int h1 h2
      · refine Tr.cmp (at_ (j := j + 1) rfl hj' (Ev.binop (a := .int (j : Int)) (b := .int 1) (Ev.name rfl) Ev.int fun Z v u _ h1 h2 => ?_) (by intro _ _; with_unfolding_all rfl)) Ev.int fun Z v u _ h1 h2 => op_ne_int h1 h2
        rw [Int.natCast_add]
        exact op_add h1 h2
      · rw [if_neg (by unfold placeOk; rw [h]; decide)]
      · rw [if_pos (by unfold placeOk; rw [h])]
    · have hpos : 0 < (placesOf p).length := List.length_pos_iff.mpr hne'
      have hple : (placesOf p).length ≤ 400 := by
        have := List.length_filter_le (placeOk p) (List.range (p.length - 1))
        rw [List.length_range] at this
        unfold placesOf; (first | exact ar135 hn hpl this | (first | lia | omega))
      refine Ex.cons (X1.assign (d := .int (pickIdx ns i p : Int)) ?_ (.inl rfl)) (Ex.cons (X1.append (d := (nextRule ns i p).pv) rfl (Ev.tuple (Evs.cons ?_ (Evs.cons (Ev.tuple (Evs.cons ?_ (Evs.cons ?_ Evs.nil))) Evs.nil))) (by rw [List.length_map]; (first | exact ar136 hi4 hrl | (first | lia | omega))))
        (Ex.cons (X1.assign (d := .list (pInts (packOf (nextRule ns i p) p))) (Ev.callF (Ev.globV K.base (K.gl rfl)) (Evs.cons (Ev.name rfl) (Evs.cons ?_ Evs.nil)) (K.topT 56 _ rfl rfl) rfl ((fn_pack K (nextRule ns i p) p (by (first | exact ar137 hn hpl | (first | lia | omega)))).le (by decide))) (.inr ⟨rfl, rfl⟩)) (Ex.nil ?_)))
      · refine Ev.sub (a := .list ((placesOf p).map fun (i : Nat) => PV.int (i : Int))) (b := .int ((sumI (pickI ns (some (i : Int)) none (some 4)) + ([3, 7, 2, 4] : List Int).getD i 0).fmod ((placesOf p).length : Int))) (Ev.name rfl) ?_ fun Z v u _ h1 h2 => op_item_list h1 h2 (Int.fmod_nonneg_of_pos _ (by (first | exact ar127 hpos | (first | lia | omega)))) ?_ (by rw [List.length_map]; (first | exact ar138 hple | (first | lia | omega)))
        · refine Ev.binop (a := .int (sumI (pickI ns (some (i : Int)) none (some 4)) + ([3, 7, 2, 4] : List Int).getD i 0)) (b := .int ((placesOf p).length : Int)) (Ev.binop (a := .int (sumI (pickI ns (some (i : Int)) none (some 4)))) (b := .int (([3, 7, 2, 4] : List Int).getD i 0)) ?_ ?_ fun Z v u _ h1 h2 => op_add h1 h2) ?_ fun Z v u _ h1 h2 => op_mod h1 h2 (by (first | exact ar139 hpos | (first | lia | omega)))
          · exact Ev.callB (Ev.globV K.base (K.bl rfl rfl)) (Evs.cons (Ev.slice (ys := pInts (pickI ns (some (i : Int)) none (some 4))) (xs := pInts ns) (Ev.name rfl) (PartEv.so (Ev.name rfl)) PartEv.no (PartEv.so Ev.int) (by decide) (by simp [pInts]; (first | exact ar26 hns | (first | lia | omega))) fun Z vs r => pick_any r) Evs.nil) fun Z vs _ hr => by
              obtain ⟨_, rfl, x1⟩ := hr.one_inv
              exact op_sum x1
          · refine Ev.sub (a := .tup (pInts [3, 7, 2, 4])) (b := .int (i : Int)) (Ev.tuple (by repeat (first | refine Evs.cons Ev.int ?_ | exact Evs.nil))) (Ev.name rfl) fun Z v u _ h1 h2 => op_item_tup h1 h2 (by (first | exact ar24 | (first | lia | omega))) ?_ (by decide)
            rw [Int.toNat_natCast]
            match i, hi4 with
            | 0, _ => rfl
            | 1, _ => rfl
            | 2, _ => rfl
            | 3, _ => rfl
          · refine Ev.callB (Ev.globV K.base (K.bl rfl rfl)) (Evs.cons (Ev.name rfl) Evs.nil) fun Z vs _ hr => ?_
            obtain ⟨_, rfl, x1⟩ := hr.one_inv
            have := op_len (prog := prg) (w := w) (Z0 := Z0) (k := 29) x1 (by rw [List.length_map]; (first | exact ar138 hple | (first | lia | omega)))
            rw [List.length_map] at this
            exact this
        · have h1 := Int.fmod_lt_of_pos (sumI (pickI ns (some (i : Int)) none (some 4)) + ([3, 7, 2, 4] : List Int).getD i 0) (b := ((placesOf p).length : Int)) (by (first | exact ar127 hpos | (first | lia | omega)))
          have h0 := Int.fmod_nonneg_of_pos (sumI (pickI ns (some (i : Int)) none (some 4)) + ([3, 7, 2, 4] : List Int).getD i 0) (b := ((placesOf p).length : Int)) (by (first | exact ar127 hpos | (first | lia | omega)))
          unfold pickIdx
          generalize (sumI (pickI ns (some (i : Int)) none (some 4)) + ([3, 7, 2, 4] : List Int).getD i 0).fmod ((placesOf p).length : Int) = m at *
          have h2 : m.toNat < (placesOf p).length := by (first | exact ar128 hpos h1 | (first | lia | omega))
          rw [List.getElem?_map, List.getD_eq_getElem?_getD, List.getElem?_eq_getElem h2]
          rfl
      · exact Ev.binop Ev.int (Ev.name rfl) fun Z v u _ h1 h2 => op_add h1 h2
      · exact at_ (j := pickIdx ns i p) rfl (by (first | exact ar134 hlt | (first | lia | omega))) (Ev.name rfl) (by intro _ _; with_unfolding_all rfl)
      · refine at_ (j := pickIdx ns i p + 1) rfl hlt (Ev.binop (a := .int (pickIdx ns i p : Int)) (b := .int 1) (Ev.name rfl) Ev.int fun Z v u _ h1 h2 => ?_) (by intro _ _; with_unfolding_all rfl)
        rw [Int.natCast_add]
        exact op_add h1 h2
      · refine Ev.ownItem rfl Ev.neg1 (by decide) (by simp; (first | exact ar140 | (first | lia | omega))) ?_ (by simp; (first | exact ar141 hi4 hrl | (first | lia | omega)))
        rw [show (-1 + (((rs.map Rule.pv ++ [(nextRule ns i p).pv]).length : Nat) : Int)).toNat = (rs.map Rule.pv).length by simp; (first | exact ar142 | (first | lia | omega))]
        simp
      · exact Sub.cons rfl (Sub.cons rfl (Sub.cons rfl Sub.nil))
  · exact Bd.freeze (x := "rules") (xs := (rulesAt ns row 4).1.map Rule.pv) rfl (Bd.ret (Ev.tuple (Evs.cons (Ev.name rfl) (Evs.cons (Ev.name rfl) Evs.nil))))
end Mq
set_option tactic.hygienic false
namespace Mq
open PySem PySem.Spec PySem.Calls PyProof.Rows PySem.W
variable {prog : Program} {w : World} {Z0 : Fz} {k : Nat} {mg mb : Str → Option Value}
section
variable {S Z Z' : Fz} {env : Env} {ρ ρ₁ : PEnv} {s s' : Shared}
theorem X1.newDict {x : Str} {np pos dp : Pos} (hx : env.kindOf x = some .local) (hs : swapsWith (.Dict [] [] dp) (some (.Name x np)) pos.line env = pure false := by rfl) :
    X1 prog w Z0 k env ρ (.Assign [.Name x np] (.Dict [] [] dp) pos) ((x, .ownD [] []) :: ρ) := fun S Z s A E r p =>
  wpAny_Assign_Name (wpAny_Dict_empty (by
    have e₁ : Ext s Z { s with heap := s.heap.push { cls := .type "dict", data := .dict #[] } } Z := Ext.keeps (t := s.toks) p.fin fun _ _ e => Heap.get?_push_of_some _ e
    have hn := get?_size s.heap
    obtain ⟨o, ho, hd⟩ := IDict.of (Heap.DictOf.new (prog := prog) (w := w) (knd := intKind prog w) s.heap)
    refine (p.ext e₁).store (sl := .ownD [] []) (.inl hx) ⟨s.heap.objs.size, o, [], rfl, ho, hd, rfl, .nil, p.fin.off hn, p.snap.off hn, ?_⟩ fun s' e' p' _ => ⟨rfl, Z, (e₁.stp p.snap).trans e', p'⟩
    obtain ⟨m, oL, es, ep, hL, _⟩ := p.ns
    exact Ne.symm (Nat.ne_of_lt (Heap.lt_size hL)))) hs
theorem X1.setD {x : Str} {np ip pos : Pos} {ie e : Expr} {i : Int} {d : PV} {ks : List Int} {ds : List PV} (hx : ρ.lookup x = some (.ownD ks ds)) (h : Ev prog w Z0 k env ρ e d) (hie : Ev prog w Z0 k env ρ ie (.int i)) (hi : i ∉ ks) (hz : ks.length ≤ 1000)
    (so : soleOwnD x ρ = true := by rfl) (hd : (x == ("__debug__" : Str)) = false := by decide) (hn : (x == ("__classdict__" : Str)) = false := by decide) (hs : swapsWith e (some (.Subscript (.Name x np) ie ip)) pos.line env = pure false := by rfl) :
    X1 prog w Z0 k env ρ (.Assign [.Subscript (.Name x np) ie ip] e pos) ((x, .ownD (ks ++ [i]) (ds ++ [d])) :: ρ) := fun S Z s A E r p => by
  refine wpAny_Assign_Subscript (wpAny_mono (h S Z s A E r p.toPre) (fun y s₁ q => ?_) fun _ _ x => x) hs
  obtain ⟨Z₁, e₁, r₁⟩ := q
  have p₁ := p.ext e₁
  obtain ⟨v, q1, a, o, vs, rfl, ha, hD, hvl, hr, hZ, hS, hL⟩ := p₁.vars x _ hx
  refine p₁.toPre.read q1 ?_ hd hn
  refine wpAny_mono (hie S Z₁ s₁ A E r p₁.toPre) (fun j s₂ q => ?_) fun _ _ x => x
  obtain ⟨Z₂, e₂, r₂⟩ := q
  obtain ⟨t, rfl⟩ := r₂.isInt
  have p₂ := p₁.ext e₂
  have ha₂ := e₂.keep _ _ ha hD.nt
  refine wpAny_setItem_pairs (knd := intKind prog w) (k := i) (kvs := ks.zip vs) (by simp [intKind, Value.isInt]) (hD.dictOf ha₂) (fun h' hD' hs' => ?_) (by rw [sizeLine_eq, List.length_zip]; (first | exact ar150 hz | (first | lia | omega)))
  have hst : stored (ks.zip vs) i y = (ks ++ [i]).zip (vs ++ [y]) := by
    unfold stored
    rw [if_neg]
    · rw [List.zip_append hvl.symm]; rfl
    · simp only [List.any_eq_true, not_exists, not_and]
      intro kv hkv
      have := (List.of_mem_zip (a := kv.1) (b := kv.2) hkv).1
      simp only [decide_eq_true_eq]
      rintro rfl
      exact hi this
  rw [hst] at hD'
  obtain ⟨o', ho', hD''⟩ := IDict.of hD'
  have := p₂.putDict (x := x) (tk := s₂.toks + 1) (ks := ks ++ [i]) (vs := vs ++ [y]) (ds := ds ++ [d]) (q1.keeps e₂.keep) ha₂ hD hL (e₂.off ha hZ) hS hs' ho' hD'' (by simp [hvl]) ((hr.mono e₂.le).append (.one (r₁.mono e₂.le))) so
  exact ⟨rfl, Z₂, ((e₁.trans e₂).stp p.snap).trans this.2, this.1⟩
/-- a dict with int keys and int values -/
noncomputable def dKeys (m : List (Int × Int)) : List Int := m.map (·.1)
noncomputable def dVals (m : List (Int × Int)) : List PV := m.map fun p => .int p.2
theorem valueAt_zip {Z : Fz} {m : List (Int × Int)} {vs : List Value} (i : Int) (x : RepL Z vs (dVals m)) : (m.lookup i = none → valueAt ((dKeys m).zip vs) i = none) ∧ ∀ j, m.lookup i = some j → ∃ t, valueAt ((dKeys m).zip vs) i = some (.int j t) := by
  induction m generalizing vs with
  | nil => exact ⟨fun _ => rfl, fun j h => nomatch h⟩
  | cons ab m ih =>
    obtain ⟨a, b⟩ := ab
    obtain ⟨v, ws, rfl, x, r⟩ := RepL.cons_inv (d := .int b) (ds := dVals m) x
    obtain ⟨t, rfl⟩ := Rep.isInt x
    by_cases h : i = a
    · subst h
      refine ⟨fun q => by simp at q, fun j q => ⟨t, ?_⟩⟩
      simp at q
      subst q
      simp [dKeys, valueAt]
    · have h1 : (i == a) = false := by simpa using h
      have h2 : ¬ a = i := fun q => h q.symm
      simp only [List.lookup_cons, h1, dKeys, List.map_cons, List.zip_cons_cons, valueAt, List.find?_cons, h2, decide_false]
      exact ih r
noncomputable def szGet (m : List (Int × Int)) (i : Int) : Int := (m.lookup i).getD 1
theorem Ev.dget {x : Str} {np ap cp : Pos} {e e2 : Expr} {i j : Int} {m : List (Int × Int)} (hx : ρ.lookup x = some (.ownD (dKeys m) (dVals m))) (h : Ev prog w Z0 k env ρ e (.int i)) (h2 : Ev prog w Z0 k env ρ e2 (.int j)) (hm : ∃ o, Z0 sysModules = some o)
    (hd : (x == ("__debug__" : Str)) = false := by decide) (hn : (x == ("__classdict__" : Str)) = false := by decide)
    (hbase : attributeBase (.Name x np) "get" env (eval (.Name x np) env) = eval (.Name x np) env := by rfl)
    (hfew : ((backTo cp (starEach [e, e2] env)).all (fun x => !x.1) && (backToKw cp (keywordEach [] env)).all (fun x => x.1.isSome) && decide (([e, e2] : List Expr).length + ([] : List Keyword).length + (if ([] : List Keyword).isEmpty then 0 else 1) < 30)) = true := by rfl)
    (hline : (ap.endLine == cp.line) = true := by rfl) (htrees : backTo cp (starEach [e, e2] env) = [(false, eval e env), (false, eval e2 env)] := by rfl) :
    Ev prog w Z0 k env ρ (.Call (.Attribute (.Name x np) "get" ap) [e, e2] [] cp) (.int ((m.lookup i).getD j)) := fun S Z s A E r p => by
  obtain ⟨v, q1, a, o, vs, rfl, ha, hD, hvl, hr, hZ, hS, hL⟩ := p.vars x _ hx
  have hne : (a == sysModules) = false := by
    obtain ⟨om, hom⟩ := hm
    have : a ≠ sysModules := by rintro rfl; rw [p.base _ _ hom] at hZ; cases hZ
    simpa using this
  have hmap := (hD.dictOf (prog := prog) (w := w) ha).mapOf
  refine wpAny_Call_method hbase hfew hline PySem.F.plainAttrs_dict PySem.F.slot_dict_get PySem.F.type_dict_get (p.read q1 ⟨hmap.typeIs, hmap.noDict, ?_⟩ hd hn)
  rw [htrees]
  refine wpAny_dict_get2 (knd := intKind prog w) hne (wpAny_mono (h S Z s A E r p) (fun y s₁ q => ?_) fun _ _ x => x)
  obtain ⟨Z₁, e₁, r₁⟩ := q
  have p₁ := p.ext e₁
  refine wpAny_mono (h2 S Z₁ s₁ A E r p₁) (fun y2 s₂ q => ?_) fun _ _ x => x
  obtain ⟨Z₂, e₂, r₂⟩ := q
  obtain ⟨t, rfl⟩ := r₁.isInt
  obtain ⟨t2, rfl⟩ := r₂.isInt
  refine ⟨i, valueAt ((dKeys m).zip vs), by simp [intKind, Value.isInt], (hD.dictOf ((e₁.trans e₂).keep _ _ ha hD.nt)).mapOf, ?_⟩
  have hv := valueAt_zip i hr
  have ext := (e₁.trans e₂).trans (Ext.toks (t := s₂.toks + 1) e₂.fin)
  cases q : m.lookup i with
  | none => rw [hv.1 q]; exact ⟨Z₂, ext, .int _ _⟩
  | some c =>
    obtain ⟨t', q'⟩ := hv.2 c q
    rw [q']; exact ⟨Z₂, ext, .int _ _⟩
/-- the index of the first such item from a place on -/
theorem index_from (l : Addr) (items : Array Value) (n : Nat) (dd : Option Addr) (sl : Array (Option Value)) (x : Value) (e : Value → Bool) (b j : Nat) (t : Tok) (hj : j < items.size) (hb : b ≤ j) (hsmall : (j : Int) < 2 ^ 63 - 1) (hit : e items[j] = true) (hno : ∀ m (hm : m < items.size), b ≤ m → m < j → e items[m] = false) :
    Meets (Builtin.«list.index» ⟨[.ref l, x, .int (b : Int) t], []⟩)
      (fun A R s => s.heap.get? l = some { cls := .type "list", dict := dd, data := .seq items n, slots := sl } ∧ (∀ y, y ∈ items → SeqAt.EqAt A.in1 s y x (e y)) ∧ R (.ok (.ret (.int j s.toks))) { s with toks := s.toks + 1 }) := by
  intro prog w A R s h
  obtain ⟨hp, g, d, tk, os⟩ := s; obtain ⟨hl, he, h⟩ := h
  wp_walk using AutoSeq1.wpAny_loadPart' hl
  have a1 : ((fun i : Int => if i < 0 then max 0 (i + (items.size : Int)) else i) ((some (b : Int)).getD 0)) = ((b : Nat) : Int) := by
    show (if (b : Int) < 0 then _ else (b : Int)) = _
    rw [if_neg (by (first | exact ar151 | (first | lia | omega)))]
  have a2 : ((fun i : Int => if i < 0 then max 0 (i + (items.size : Int)) else i) ((none : Option Int).getD (2 ^ 63 - 1))) = 2 ^ 63 - 1 := by simp
  rw [a1, a2]
  exact ⟨plainId_quiet MeetsSeq.plain_index_loop _, codeAny_builtin MeetsSeq.entry_index_loop (by
    rw [Around.under_plainId MeetsSeq.plain_index_loop _]
    exact SeqAt.index_loopAt l items n dd sl x e (2 ^ 63 - 1) j hj hsmall hit _ b rfl hb (fun m hm h1 h2 => hno m hm h1 h2) prog w A R _ ⟨hl, he, h⟩)⟩
noncomputable def isI0 : Value → Bool
  | .int c _ => c == 0
  | _ => false
theorem Ev.index {xe e0 be : Expr} {ap cp : Pos} {ns : List Int} {b j : Nat} (hx : Ev prog w Z0 k env ρ xe (.list (pInts ns))) (h0 : Ev prog w Z0 k env ρ e0 (.int 0)) (hb : Ev prog w Z0 k env ρ be (.int (b : Int))) (hj : ns[j]? = some 0) (hbj : b ≤ j) (hno : ∀ m, b ≤ m → m < j → ns[m]? ≠ some 0) (hz : ns.length ≤ 1000)
    (hbase : attributeBase xe "index" env (eval xe env) = eval xe env := by rfl)
    (hfew : ((backTo cp (starEach [e0, be] env)).all (fun x => !x.1) && (backToKw cp (keywordEach [] env)).all (fun x => x.1.isSome) && decide (([e0, be] : List Expr).length + ([] : List Keyword).length + (if ([] : List Keyword).isEmpty then 0 else 1) < 30)) = true := by rfl)
    (hline : (ap.endLine == cp.line) = true := by rfl) (htrees : backTo cp (starEach [e0, be] env) = [(false, eval e0 env), (false, eval be env)] := by rfl) :
    Ev prog w Z0 k env ρ (.Call (.Attribute xe "index" ap) [e0, be] [] cp) (.int (j : Int)) := fun S Z s A E r p => by
  refine wpAny_Call_method hbase hfew hline PySem.F.plainAttrs_list PySem.F.slot_list_index PySem.F.type_list_index (wpAny_mono (hx S Z s A E r p) (fun ov s₁ q => ?_) fun _ _ x => x)
  obtain ⟨Z₁, e₁, r₁⟩ := q
  have p₁ := p.ext e₁
  cases r₁ with
  | @list l o n vs _ hz1 hc hdn hdd rr =>
  have ho := p₁.fin.get hz1
  refine ⟨⟨o, ho, hc⟩, fun a ha => (by cases ha; exact ⟨o, ho, hdn⟩), ?_⟩
  rw [htrees]
  refine callWith_builtin rfl (evalArgs_plain (spliced_cons (wpAny_mono (h0 S Z₁ s₁ A E r p₁) (fun y s₂ q => ?_) fun _ _ x => x)))
  obtain ⟨Z₂, e₂, r₂⟩ := q
  have p₂ := p₁.ext e₂
  refine spliced_cons (wpAny_mono (hb S Z₂ s₂ A E r p₂) (fun y2 s₃ q => spliced_nil ?_) fun _ _ x => x)
  obtain ⟨Z₃, e₃, r₃⟩ := q
  obtain ⟨t, rfl⟩ := r₂.isInt
  obtain ⟨t2, rfl⟩ := r₃.isInt
  have p₃ := p₂.ext e₃
  have ho₃ := (e₂.trans e₃).keep _ _ ho (Tb.ty hc)
  obtain ⟨cls, dd, data, sl⟩ := o
  simp only at hc hdd
  subst hc hdd
  have hi := rr.toInts
  have hlen : vs.length = ns.length := hi.length
  have hjl : j < ns.length := (List.getElem?_eq_some_iff.mp hj).1
  have at_ : ∀ m (hm : m < vs.toArray.size), ∃ c t, vs.toArray[m] = .int c t ∧ ns[m]? = some c := fun m hm => by
    have hm' : m < vs.length := by simpa using hm
    obtain ⟨d, hd, rd⟩ := rr.get (i := m) (v := vs[m]) (List.getElem?_eq_getElem hm')
    obtain ⟨c, hc, rfl⟩ : ∃ c, ns[m]? = some c ∧ PV.int c = d := by simpa [pInts] using hd
    obtain ⟨t, ht⟩ := rd.isInt
    exact ⟨c, t, by simpa using ht, hc⟩
  refine call_meets PySem.F.slot_list_index ⟨_, ho₃, rfl⟩ PySem.F.entry_list_index (PySem.F.args_list_index_3 _ _ _)
    (index_from l vs.toArray n dd sl (.int 0 t) isI0 b j t2 (by simpa [hlen] using hjl) hbj (by (first | exact ar152 hz hjl | (first | lia | omega))) ?_ ?_) ⟨ho₃, fun y hy => ?_, ?_⟩
  · obtain ⟨c, t', h1, h2⟩ := at_ j (by simpa [hlen] using hjl)
    rw [hj] at h2; cases h2
    rw [h1]; rfl
  · intro m hm h1 h2
    obtain ⟨c, t', h3, h4⟩ := at_ m hm
    rw [h3]
    have : c ≠ 0 := by rintro rfl; exact hno m h1 h2 h4
    simpa [isI0] using this
  · obtain ⟨m, hm, rfl⟩ := Array.mem_iff_getElem.mp hy
    obtain ⟨c, t', h3, h4⟩ := at_ m hm
    rw [h3]
    exact (MeetsSeq.EqGives.int c 0 t' t).at _ _
  · exact ⟨Z₃, ((e₁.trans e₂).trans e₃).trans (Ext.toks (t := s₃.toks + 1) e₃.fin), .int _ _⟩
end
end Mq
set_option tactic.hygienic false
namespace Mq
open PySem PySem.Spec PySem.Calls PyProof.Rows PySem.W
variable {w : World} {Z0 : Fz} {mg mb : Str → Option Value}
noncomputable def sizesOf (rs : List Rule) : List (Int × Int) := rs.foldl (fun m r => m ++ [(r.new, szGet m r.a + szGet m r.b)]) []
theorem sizes_keys : ∀ (rs : List Rule) (m : List (Int × Int)), dKeys (rs.foldl (fun m r => m ++ [(r.new, szGet m r.a + szGet m r.b)]) m) = dKeys m ++ rs.map (·.new)
  | [], m => by simp
  | r :: rs, m => by rw [List.foldl_cons, sizes_keys rs]; simp [dKeys]
theorem sizesOf_keys (rs : List Rule) : dKeys (sizesOf rs) = rs.map (·.new) := by unfold sizesOf; rw [sizes_keys]; simp [dKeys]
noncomputable def restAt (row : List Int) (b : Nat) : List Int := (row.drop b).takeWhile (· != 0)
theorem rest_facts : ∀ (l : List Int), 0 ∈ l → l[(l.takeWhile (· != 0)).length]? = some 0 ∧ (∀ m, m < (l.takeWhile (· != 0)).length → l[m]? ≠ some 0) ∧ l.take (l.takeWhile (· != 0)).length = l.takeWhile (· != 0) ∧ (l.takeWhile (· != 0)).length < l.length
  | [], h => by simp at h
  | a :: l, h => by
    by_cases ha : a = 0
    · subst ha; simp
    · have h' : 0 ∈ l := by simpa [Ne.symm ha] using h
      obtain ⟨h1, h2, h3, h4⟩ := rest_facts l h'
      have e : (a :: l).takeWhile (· != 0) = a :: l.takeWhile (· != 0) := by simp [List.takeWhile_cons, ha]
      rw [e]
      refine ⟨by simpa using h1, fun m hm => ?_, by simp [h3], by simp; (first | exact ar165 h4 | (first | lia | omega))⟩
      cases m with
      | zero => simpa using ha
      | succ m => simpa using h2 m (by simpa using hm)
noncomputable def beginAt (m : List (Int × Int)) (packed : List Int) (j : Nat) : Int := ((packed.take j).map (szGet m)).sum
noncomputable def restsOf (m : List (Int × Int)) (row packed : List Int) (j : Nat) : List (List Int) := (List.range j).map fun i => restAt row (beginAt m packed i).toNat
theorem fn_rests (K : Kit w Z0 mg mb) (hsm : ∃ o, Z0 sysModules = some o) (row packed : List Int) (rs : List Rule) (hrow : row.length ≤ 500) (hpk : packed.length ≤ 500) (hrs : rs.length ≤ 100) (hnew : ∀ (i : Nat) r, rs[i]? = some r → r.new = 256 + (i : Int))
    (hb : ∀ j, j < packed.length → 0 ≤ beginAt (sizesOf rs) packed j ∧ 0 ∈ row.drop (beginAt (sizesOf rs) packed j).toNat) :
    Fn prg w Z0 30 (.ref 73) [.list (pInts row), .list (pInts packed), .list (rs.map Rule.pv)] (.list (pLists (restsOf (sizesOf rs) row packed packed.length))) := by
  refine Fn.mk (names := ["row", "packed", "rules"]) K.base (K.topT 73 _ rfl rfl) rfl (K.codeT rfl rfl rfl rfl) rfl rfl rfl (bind3 fun a b c => rfl) (by decide) (by decide) rfl rfl (fun L => ?_)
  refine Bd.cons (X1.newDict rfl) (Bd.cons (X1.loop (.list (rs.map Rule.pv)) (Ev.name rfl) (fun i => [("sizes", .ownD (dKeys (sizesOf (rs.take i))) (dVals (sizesOf (rs.take i)))), ("row", .fz (.list (pInts row))), ("packed", .fz (.list (pInts packed)))]) ?_ ?_) ?_)
  · exact Sub.cons rfl (Sub.cons rfl (Sub.cons rfl Sub.nil))
  · intro i x hx
    obtain ⟨r, hr, rfl⟩ : ∃ r, rs[i]? = some r ∧ r.pv = x := by simpa using hx
    refine ⟨_, Tg.tup (Tgs.cons (Tg.name (.inl rfl)) (Tgs.cons (Tg.tup (Tgs.cons (Tg.name (.inl rfl)) (Tgs.cons (Tg.name (.inl rfl)) Tgs.nil)) rfl rfl) Tgs.nil)) rfl rfl, ?_⟩
    have hil : i < rs.length := (List.getElem?_eq_some_iff.mp hr).1
    have hst : sizesOf (rs.take (i + 1)) = sizesOf (rs.take i) ++ [(r.new, szGet (sizesOf (rs.take i)) r.a + szGet (sizesOf (rs.take i)) r.b)] := by
      rw [List.take_add_one, hr]; simp [sizesOf, List.foldl_append]
    have hk1 : dKeys (sizesOf (rs.take (i + 1))) = dKeys (sizesOf (rs.take i)) ++ [r.new] := by rw [hst]; simp [dKeys]
    have hv1 : dVals (sizesOf (rs.take (i + 1))) = dVals (sizesOf (rs.take i)) ++ [.int (szGet (sizesOf (rs.take i)) r.a + szGet (sizesOf (rs.take i)) r.b)] := by rw [hst]; simp [dVals]
    rw [hk1, hv1]
    have hnk : r.new ∉ dKeys (sizesOf (rs.take i)) := by
      rw [sizesOf_keys]
      intro hm
      obtain ⟨r', hr', he⟩ := List.mem_map.mp hm
      obtain ⟨j, hj, rfl⟩ := List.mem_iff_getElem.mp hr'
      have hj2 : j < i := by simp at hj; (first | exact ar31 hj | (first | lia | omega))
      have h1 := hnew i r hr
      have h2 := hnew j _ (show rs[j]? = some ((rs.take i)[j]) by rw [List.getElem_take]; exact List.getElem?_eq_getElem (by (first | exact ar294 hil hj2 | (first | lia | omega))))
      (first | exact ar295 he hj2 h1 h2 | (first | lia | omega))
    refine Ex.cons (X1.setD rfl (Ev.binop (a := .int (szGet (sizesOf (rs.take i)) r.a)) (b := .int (szGet (sizesOf (rs.take i)) r.b)) (Ev.dget rfl (Ev.name rfl) Ev.int hsm) (Ev.dget rfl (Ev.name rfl) Ev.int hsm) fun Z v u _ h1 h2 => op_add h1 h2) (Ev.name rfl) hnk ?_) (Ex.nil (Sub.cons rfl (Sub.cons rfl (Sub.cons rfl Sub.nil))))
    rw [sizesOf_keys]; simp; (first | exact ar296 hrs | (first | lia | omega))
  · have hl1 : (rs.map Rule.pv).length = rs.length := by simp
    rw [hl1, List.take_length]
    generalize sizesOf rs = m at *
    refine Bd.cons (X1.newList (.inl rfl)) (Bd.cons (X1.assign Ev.int (.inl rfl)) (Bd.cons (X1.loop (.list (pInts packed)) (Ev.name rfl) (fun j => [("rests", .own (pLists (restsOf m row packed j))), ("begin", .fz (.int (beginAt m packed j))), ("sizes", .ownD (dKeys m) (dVals m)), ("row", .fz (.list (pInts row)))]) ?_ ?_) ?_))
    · exact Sub.cons rfl (Sub.cons rfl (Sub.cons rfl (Sub.cons rfl Sub.nil)))
    · intro j x hx
      obtain ⟨n, hn', rfl⟩ : ∃ n, packed[j]? = some n ∧ PV.int n = x := by simpa [pInts] using hx
      have hjl : j < packed.length := (List.getElem?_eq_some_iff.mp hn').1
      obtain ⟨hb0, hbz⟩ := hb j hjl
      have hnx : beginAt m packed (j + 1) = beginAt m packed j + szGet m n := by
        unfold beginAt; rw [List.take_add_one, hn']; simp
      have hrx : pLists (restsOf m row packed (j + 1)) = pLists (restsOf m row packed j) ++ [.list (pInts (restAt row (beginAt m packed j).toNat))] := by
        simp [pLists, restsOf, List.range_succ]
      have hrl : (pLists (restsOf m row packed j)).length = j := by simp [pLists, restsOf]
      rw [hnx, hrx]
      obtain ⟨b, hbe⟩ : ∃ b : Nat, beginAt m packed j = (b : Int) := ⟨(beginAt m packed j).toNat, by (first | exact ar62 hb0 | (first | lia | omega))⟩
      rw [hbe] at hb0 hbz ⊢
      rw [Int.toNat_natCast] at hbz ⊢
      obtain ⟨f1, f2, f3, f4⟩ := rest_facts _ hbz
      have f4' : b + (restAt row b).length < row.length := by unfold restAt; simp only [List.length_drop] at f4; (first | exact ar297 f4 | (first | lia | omega))
      refine ⟨_, Tg.name (.inl rfl), Ex.cons (X1.append (d := .list (pInts (restAt row b))) rfl (Ev.slice (xs := pInts row) (lo := some (b : Int)) (hi := some ((b + (restAt row b).length : Nat) : Int)) (st := none) (Ev.name rfl) (PartEv.so (Ev.name rfl)) (PartEv.so (Ev.index (ns := row) (b := b) (Ev.name rfl) Ev.int (Ev.name rfl) ?_ (by (first | exact ar298 | (first | lia | omega))) ?_ (by (first | exact ar299 hrow | (first | lia | omega))))) PartEv.no (by decide) (by simp [pInts]; (first | exact ar300 hrow | (first | lia | omega))) ?_) (by (first | exact ar301 hpk hjl hrl | (first | lia | omega))))
        (Ex.cons (X1.augInt rfl (Ev.dget rfl (Ev.name rfl) Ev.int hsm) rfl) (Ex.nil (Sub.cons rfl (Sub.cons rfl (Sub.cons rfl (Sub.cons rfl Sub.nil))))))⟩
      · unfold restAt; rw [← List.getElem?_drop]; exact f1
      · intro m' h1 h2 h3
        refine f2 (m' - b) (by unfold restAt at h2; (first | exact ar302 h1 h2 | (first | lia | omega))) ?_
        rw [List.getElem?_drop]
        rw [show b + (m' - b) = m' by (first | exact ar196 h1 | (first | lia | omega))]
        exact h3
      · intro Z vs rr
        have := pick_run' rr (x := (b : Int)) (y := ((b + (restAt row b).length : Nat) : Int)) (by (first | exact ar24 | (first | lia | omega))) (by (first | exact ar303 | (first | lia | omega)))
        have e : ((pInts row).drop (b : Int).toNat).take (min ((b + (restAt row b).length : Nat) : Int).toNat (pInts row).length - (b : Int).toNat) = pInts (restAt row b) := by
          rw [Int.toNat_natCast, Int.toNat_natCast]
          have : (pInts row).length = row.length := by simp [pInts]
          rw [this, show min (b + (restAt row b).length) row.length - b = (restAt row b).length by (first | exact ar304 f4' | (first | lia | omega))]
          unfold pInts restAt
          rw [← List.map_drop, ← List.map_take, f3]
        rw [e] at this
        exact this
    · have : (pInts packed).length = packed.length := by simp [pInts]
      rw [this]
      exact Bd.ret_own rfl
end Mq
set_option tactic.hygienic false
namespace Mq
open PySem PySem.Spec PySem.Calls PyProof.Rows PySem.W
section
variable {prog : Program} {w : World} {Z0 : Fz} {k : Nat} {mg mb : Str → Option Value}
theorem Tr.val {env : Env} {ρ : PEnv} {e : Expr} {b : Bool} (h : Ev prog w Z0 k env ρ e (.bool b)) (he : isTrue e env (eval e env) = (do let v ← eval e env; standAt e.pos; holding [v] (truthy v)) := by rfl) : Tr prog w Z0 k env ρ e b := fun S Z s A E r p =>
  wpAny_isTrue_value (wpAny_mono (h S Z s A E r p) (fun v s₁ q => by
    obtain ⟨Z₁, e₁, r₁⟩ := q
    obtain rfl := r₁.isBool
    exact wpAny_truthy_bool ⟨rfl, Z₁, e₁⟩) fun _ _ x => x) he
/-- a dict that stands still -/
noncomputable def dictP (ks : List Int) (ds : List PV) : PV := .abs fun Z v => ∃ a o vs, v = .ref a ∧ Z a = some o ∧ IDict o (ks.zip vs) ∧ vs.length = ks.length ∧ RepL Z vs ds
theorem Rep.isDict {Z : Fz} {v : Value} {ks : List Int} {ds : List PV} (h : Rep Z v (dictP ks ds)) : ∃ a o vs, v = .ref a ∧ Z a = some o ∧ IDict o (ks.zip vs) ∧ vs.length = ks.length ∧ RepL Z vs ds := by
  cases h with
  | abs h l =>
    obtain ⟨a, o, vs, h1, h2, h3, h4, h5⟩ := h
    exact ⟨a, o, vs, h1, l _ _ h2, h3, h4, h5.mono l⟩
theorem valueAt_get {Z : Fz} {ks : List Int} {vs : List Value} {ds : List PV} {j : Nat} {i : Int} {d : PV} (x : RepL Z vs ds) (hn : ks.Nodup) (h1 : ks[j]? = some i) (h2 : ds[j]? = some d) : ∃ v, valueAt (ks.zip vs) i = some v ∧ Rep Z v d := by
  refine x.ind (motive := fun vs ds => ∀ {ks : List Int} {j : Nat}, ks.Nodup → ks[j]? = some i → ds[j]? = some d → ∃ v, valueAt (ks.zip vs) i = some v ∧ Rep Z v d) (fun _ _ h => nomatch (List.getElem?_nil.symm.trans h)) (fun {v vs d' ds} x _ ih ks j hn h1 h2 => ?_) hn h1 h2
  cases ks with
  | nil => exact nomatch (List.getElem?_nil.symm.trans h1)
  | cons a ks =>
    cases j with
    | zero =>
      cases Option.some.inj h1; cases Option.some.inj h2
      exact ⟨v, by simp [valueAt], x⟩
    | succ j =>
      have hm : i ∈ ks := List.mem_of_getElem? (show ks[j]? = some i from h1)
      have hne : ¬ a = i := by rintro rfl; exact (List.nodup_cons.mp hn).1 hm
      obtain ⟨u, h3, h4⟩ := ih (List.nodup_cons.mp hn).2 h1 h2
      refine ⟨u, ?_, h4⟩
      simpa [valueAt, List.find?_cons, hne] using h3
theorem op_item_dict {Z : Fz} {v u : Value} {value slice : Expr} {ks : List Int} {ds : List PV} {i : Int} {j : Nat} {d : PV} (h1 : Rep Z v (dictP ks ds)) (h2 : Rep Z u (.int i)) (hn : ks.Nodup) (hk : ks[j]? = some i) (hd : ds[j]? = some d)
    (hs : ∀ o j, subscripted slice false (.ref o) j = operate [.ref o, j] (getItem (.ref o) j) := by intro _ _; with_unfolding_all rfl) : Op prog w Z0 k Z (subscriptTail value slice v u) d := fun s A E r hi => by
  obtain ⟨t, rfl⟩ := h2.isInt
  obtain ⟨a, o, vs, rfl, ha, hD, hl, hr⟩ := h1.isDict
  have hm := (hD.dictOf (prog := prog) (w := w) (hi.get ha)).mapOf
  obtain ⟨x, hx, rx⟩ := valueAt_get hr hn hk hd
  exact tail_any hm.typeIs slot_dict_getitem.lookup (wpAny_getItem_of (knd := intKind prog w) (k := i) (by simp [intKind, Value.isInt]) hm hx ⟨Z, .toks hi, rx⟩) (hs _ _)
end
variable {w : World} {Z0 : Fz} {mg mb : Str → Option Value}
noncomputable def pairsP (rs : List Rule) : PV := dictP (rs.map (·.new)) (rs.map fun r => .tup [.int r.a, .int r.b])
noncomputable def letF (rs : List Rule) : Nat → Int → List Int
  | 0, s => [s]
  | n + 1, s => if s < 256 then [s] else letF rs n (rs.getD (s - 256).toNat ⟨0, 0, 0⟩).a ++ letF rs n (rs.getD (s - 256).toNat ⟨0, 0, 0⟩).b
structure RulesOk (rs : List Rule) : Prop where
  new : ∀ (i : Nat) r, rs[i]? = some r → r.new = 256 + (i : Int)
  a : ∀ (i : Nat) r, rs[i]? = some r → r.a < 256 + (i : Int)
  b : ∀ (i : Nat) r, rs[i]? = some r → r.b < 256 + (i : Int)
theorem RulesOk.nodup {rs : List Rule} (h : RulesOk rs) : (rs.map (·.new)).Nodup := by
  unfold List.Nodup
  rw [List.pairwise_iff_getElem]
  intro i j hi hj hij
  rw [List.length_map] at hi hj
  have h1 := h.new i _ (List.getElem?_eq_getElem hi)
  have h2 := h.new j _ (List.getElem?_eq_getElem hj)
  simp only [List.getElem_map]
  (first | exact ar357 hij h1 h2 | (first | lia | omega))
theorem letF_len (rs : List Rule) : ∀ n s, (letF rs n s).length ≤ 2 ^ n
  | 0, s => by simp [letF]
  | n + 1, s => by
    unfold letF
    split
    · simp; exact Nat.one_le_two_pow
    · rw [List.length_append, Nat.pow_succ]
      have := letF_len rs n (rs.getD (s - 256).toNat ⟨0, 0, 0⟩).a
      have := letF_len rs n (rs.getD (s - 256).toNat ⟨0, 0, 0⟩).b
      (first | exact ar358 (by assumption) this | (first | lia | omega))
theorem fn_letters (K : Kit w Z0 mg mb) (rs : List Rule) (h : RulesOk rs) : ∀ (n : Nat) (s : Int), n ≤ rs.length → n ≤ 10 → s < 256 + n → Fn prg w Z0 (n + 11) (.ref 80) [.int s, pairsP rs] (.list (pInts (letF rs n s)))
  | n, s, hn, hn10, hs => by
    refine Fn.mk (k := n + 10) (names := ["symbol", "pairs"]) K.base (K.topT 80 _ rfl rfl) rfl (K.codeT rfl rfl rfl rfl) rfl rfl rfl (bind2 fun a b => rfl) (by decide) (by decide) rfl rfl (fun L => ?_)
    have ht : ∀ {env : Env} {ρ : PEnv} {fp np cp : Pos}, ρ.lookup ("symbol" : Str) = some (.fz (.int s)) → env.kindOf "ISTERMINAL" = some .globalImplicit → (∀ pos, backTo pos (starEach [.Name "symbol" np] env) = (false, eval (.Name "symbol" np) env) :: backTo pos (starEach [] env)) →
        Tr prg w Z0 (n + 10) env ρ (.Call (.Name "ISTERMINAL" fp) [.Name "symbol" np] [] cp) (decide (s < 256)) := fun h1 h2 h3 =>
      Tr.val (Ev.callF (Ev.globV K.base (K.gl rfl) h2) (Evs.cons (Ev.name h1) Evs.nil) (K.topT 37 _ rfl rfl) rfl ((fn_ISTERMINAL K s).le (by (first | exact ar359 | (first | lia | omega)))) h3)
    by_cases hlt : s < 256
    · have e : letF rs n s = [s] := by cases n with | zero => rfl | succ n => simp [letF, hlt]
      rw [e]
      rw [show decide (s < 256) = true by simp [hlt]] at ht
      exact Bd.cond_ret (ht rfl rfl (by intro _; rfl)) (Bd.ret (Ev.list (hz := by simp [pInts]) (Evs.cons (Ev.name rfl) Evs.nil)))
    · rw [show decide (s < 256) = false by simp [hlt]] at ht
      cases n with
      | zero => exact absurd hs (by (first | exact ar360 hlt | (first | lia | omega)))
      | succ n =>
        have hi : (s - 256).toNat < rs.length := by (first | exact ar86 hn hs | (first | lia | omega))
        obtain ⟨r, hr⟩ : ∃ r, rs[(s - 256).toNat]? = some r := ⟨_, List.getElem?_eq_getElem hi⟩
        have hg : rs.getD (s - 256).toNat ⟨0, 0, 0⟩ = r := by rw [List.getD_eq_getElem?_getD, hr]; rfl
        have hnew := h.new _ _ hr
        have ha := h.a _ _ hr
        have hb := h.b _ _ hr
        have e : letF rs (n + 1) s = letF rs n r.a ++ letF rs n r.b := by simp only [letF, hlt, if_false, hg]
        rw [e]
        have fa := fn_letters K rs h n r.a (by (first | exact ar16 hn | (first | lia | omega))) (by (first | exact ar361 hn10 | (first | lia | omega))) (by (first | exact ar87 hs ha | (first | lia | omega)))
        have fb := fn_letters K rs h n r.b (by (first | exact ar16 hn | (first | lia | omega))) (by (first | exact ar361 hn10 | (first | lia | omega))) (by (first | exact ar87 hs hb | (first | lia | omega)))
        refine Bd.cons (X1.cond (c := false) (ht rfl rfl (by intro _; rfl)) (fun h => nomatch h) (fun _ => Ex.nil')) (Bd.cons (X1.assignTup (d := .tup [.int r.a, .int r.b]) (Ev.sub (a := pairsP rs) (b := .int s) (Ev.name rfl) (Ev.name rfl) fun Z v u _ h1 h2 => op_item_dict (j := (s - 256).toNat) h1 h2 h.nodup ?_ ?_) (Tg.tup (Tgs.cons (Tg.name (.inl rfl)) (Tgs.cons (Tg.name (.inl rfl)) Tgs.nil)) rfl rfl)) (Bd.ret (Ev.binop
          (Ev.callF (d := .list (pInts (letF rs n r.a))) (Ev.globV K.base (K.gl rfl)) (Evs.cons (Ev.name rfl) (Evs.cons (Ev.name rfl) Evs.nil)) (K.topT 80 _ rfl rfl) rfl (fa.le (by (first | exact ar362 | (first | lia | omega)))))
          (Ev.callF (d := .list (pInts (letF rs n r.b))) (Ev.globV K.base (K.gl rfl)) (Evs.cons (Ev.name rfl) (Evs.cons (Ev.name rfl) Evs.nil)) (K.topT 80 _ rfl rfl) rfl (fb.le (by (first | exact ar362 | (first | lia | omega))))) fun Z v u _ h1 h2 => ?_)))
        · rw [List.getElem?_map, hr, Option.map_some]; congr 1; (first | exact ar363 hlt hnew | (first | lia | omega))
        · rw [List.getElem?_map, hr]; rfl
        · have := op_cat (prog := prg) (w := w) (Z0 := Z0) (k := n + 1 + 10) h1 h2 (by
            have := letF_len rs n r.a; have := letF_len rs n r.b
            have : 2 ^ n ≤ 2 ^ 10 := Nat.pow_le_pow_right (by decide) (by (first | exact ar361 hn10 | (first | lia | omega)))
            simp only [pInts, List.length_map]; (first | exact ar364 (by assumption) (by assumption) this | (first | lia | omega)))
          rw [show pInts (letF rs n r.a ++ letF rs n r.b) = pInts (letF rs n r.a) ++ pInts (letF rs n r.b) by simp [pInts]]
          exact this
end Mq
set_option tactic.hygienic false
namespace Mq
open PySem PySem.Spec PySem.Calls PyProof.Rows PySem.W
section
variable {prog : Program} {w : World} {Z0 : Fz} {k : Nat} {mg mb : Str → Option Value} {Z : Fz} {v u : Value}
noncomputable def boolText (b : Bool) : Str := if b then "True" else "False"
noncomputable def ansText (b1 b2 b3 b4 b5 b6 : Bool) : Str := listText [boolText b1, boolText b2, boolText b3, boolText b4, boolText b5, boolText b6]
theorem ansText_len (b1 b2 b3 b4 b5 b6 : Bool) : (ansText b1 b2 b3 b4 b5 b6).length ≤ 1000 := by
  revert b1 b2 b3 b4 b5 b6; decide +kernel
theorem op_repr6 {b1 b2 b3 b4 b5 b6 : Bool} (h1 : Rep Z v (.list [.bool b1, .bool b2, .bool b3, .bool b4, .bool b5, .bool b6])) (hk : 1 ≤ k) : Op prog w Z0 k Z (call (.builtin "repr") [v]) (.str (ansText b1 b2 b3 b4 b5 b6)) := fun s A E r hi => by
  obtain ⟨l, vs, rfl, hl, r1⟩ := h1.isList hi
  obtain ⟨o, ho, hc, n, hd⟩ := id hl
  obtain ⟨v1, _, rfl, x1, r1⟩ := r1.cons_inv
  obtain ⟨v2, _, rfl, x2, r1⟩ := r1.cons_inv
  obtain ⟨v3, _, rfl, x3, r1⟩ := r1.cons_inv
  obtain ⟨v4, _, rfl, x4, r1⟩ := r1.cons_inv
  obtain ⟨v5, v6, rfl, x5, x6⟩ := r1.two_inv
  obtain rfl := x1.isBool; obtain rfl := x2.isBool; obtain rfl := x3.isBool; obtain rfl := x4.isBool; obtain rfl := x5.isBool; obtain rfl := x6.isBool
  refine call_repr_slot (r.u1 hk) hl.typeIs PySem.F.slot_list_repr.toG (call_list_repr (A := A.in1) hl.typeIs (show A.in1.guards = some [] from r.guards) (fun _ _ _ h => nomatch h) ho hd (ts := [boolText b1, boolText b2, boolText b3, boolText b4, boolText b5, boolText b6]) rfl ?_ (fun h' u tk hk => ⟨_, _, rfl, Z, .keeps hi hk, .str _ _⟩) ?_)
  · intro i y hy
    match i, hy with
    | 0, hy => cases hy; exact ⟨_, rfl, ReprIs.bool _⟩
    | 1, hy => cases hy; exact ⟨_, rfl, ReprIs.bool _⟩
    | 2, hy => cases hy; exact ⟨_, rfl, ReprIs.bool _⟩
    | 3, hy => cases hy; exact ⟨_, rfl, ReprIs.bool _⟩
    | 4, hy => cases hy; exact ⟨_, rfl, ReprIs.bool _⟩
    | 5, hy => cases hy; exact ⟨_, rfl, ReprIs.bool _⟩
  · have := ansText_len b1 b2 b3 b4 b5 b6
    rw [sizeLine_eq]
    exact Nat.le_trans this (by decide)
/-- lists of ints in order -/
noncomputable def opI : CmpOp → Int → Int → Bool
  | .Lt, a, b => decide (a < b)
  | .LtE, a, b => decide (a ≤ b)
  | .Gt, a, b => decide (b < a)
  | .GtE, a, b => decide (b ≤ a)
  | _, a, b => a == b
noncomputable def lexI (op : CmpOp) : List Int → List Int → Bool
  | [], [] => opI op 0 0
  | [], _ :: _ => opI op 0 1
  | _ :: _, [] => opI op 1 0
  | a :: l, b :: m => if a = b then lexI op l m else opI op a b
theorem lexI_end (op : CmpOp) (ho : op = .Lt ∨ op = .LtE ∨ op = .Gt ∨ op = .GtE) (l m : List Int) (i : Nat) (h : i = l.length ∨ i = m.length) (h1 : i ≤ l.length) (h2 : i ≤ m.length) : lexI op (l.drop i) (m.drop i) = opI op (l.length : Int) (m.length : Int) := by
  rcases h with h | h
  · rw [h, List.drop_length]
    rw [h] at h2
    cases q : m.drop l.length with
    | nil =>
      have : m.length = l.length := by
        have := congrArg List.length q
        simp at this; (first | exact ar365 h2 this | (first | lia | omega))
      rcases ho with rfl | rfl | rfl | rfl <;> simp [lexI, opI, this]
    | cons a r =>
      have : l.length < m.length := by
        have := congrArg List.length q
        simp at this; (first | exact ar366 this | (first | lia | omega))
      rcases ho with rfl | rfl | rfl | rfl <;> simp [lexI, opI] <;> (first | exact ar165 this | exact ar325 h2 | (first | lia | omega))
  · rw [h, List.drop_length]
    rw [h] at h1
    cases q : l.drop m.length with
    | nil =>
      have : m.length = l.length := by
        have := congrArg List.length q
        simp at this; (first | exact ar367 h1 this | (first | lia | omega))
      rcases ho with rfl | rfl | rfl | rfl <;> simp [lexI, opI, this]
    | cons a r =>
      have : m.length < l.length := by
        have := congrArg List.length q
        simp at this; (first | exact ar366 this | (first | lia | omega))
      rcases ho with rfl | rfl | rfl | rfl <;> simp [lexI, opI] <;> (first | exact ar325 h1 | exact ar165 this | (first | lia | omega))
theorem ints_at : ∀ {vs : List Value} {ns : List Int} {i : Nat} {v : Value}, IntsAre vs ns → vs[i]? = some v → ∃ a t, v = .int a t ∧ ns[i]? = some a
  | _, _, _, _, .nil, h => by simp at h
  | _, _, 0, _, .cons n t r, h => by simp at h; subst h; exact ⟨n, t, rfl, by simp⟩
  | _, _, i + 1, _, .cons n t r, h => by
    obtain ⟨a, t', h1, h2⟩ := ints_at r (i := i) (by simpa using h)
    exact ⟨a, t', h1, by simpa using h2⟩
theorem cmp_loopAt (op : CmpOp) (code : Nat) (hoc : (op = .Lt ∧ code = 0) ∨ (op = .LtE ∧ code = 1) ∨ (op = .Gt ∧ code = 4) ∨ (op = .GtE ∧ code = 5)) (l b : Addr) (vs us : List Value) (n n2 : Nat) (dd dd2 : Option Addr) (sl sl2 : Array (Option Value)) (ns ms : List Int) (h1 : IntsAre vs ns) (h2 : IntsAre us ms) (k : Nat) :
    ∀ i : Nat, vs.length - i = k → i ≤ vs.length → i ≤ us.length → Meets (Builtin.«list.__eq__.loop» ⟨[.ref l, .ref b, rawInt i, rawInt code], []⟩)
      (fun A R s => s.heap.get? l = some { cls := .type "list", dict := dd, data := .seq vs.toArray n, slots := sl } ∧ s.heap.get? b = some { cls := .type "list", dict := dd2, data := .seq us.toArray n2, slots := sl2 } ∧
        R (.ok (.ret (.bool (lexI op (ns.drop i) (ms.drop i))))) s) := by
  have e1 := h1.length
  have e2 := h2.length
  have hop : op = .Lt ∨ op = .LtE ∨ op = .Gt ∨ op = .GtE := by rcases hoc with ⟨h, _⟩ | ⟨h, _⟩ | ⟨h, _⟩ | ⟨h, _⟩ <;> simp [h]
  induction k using Nat.strongRecOn with
  | ind k ih =>
    intro i hk hi1 hi2 prog w A R s h
    obtain ⟨hp, g, d, tk, os⟩ := s; obtain ⟨hl, hb, h⟩ := h
    have hcc : ((i : Int) + 1) = ((i + 1 : Nat) : Int) := by push_cast; rfl
    have ends : (vs.toArray[((i : Nat) : Int).toNat]? = none ∨ us.toArray[((i : Nat) : Int).toNat]? = none) → R (.ok (.ret (.bool (opI op (vs.toArray.size : Int) (us.toArray.size : Int))))) ⟨hp, g, d, tk, os⟩ := fun hn => by
      have hn' : i = ns.length ∨ i = ms.length := by
        rcases hn with hn | hn
        · left; simp at hn; (first | exact ar368 e1 hi1 hn | (first | lia | omega))
        · right; simp at hn; (first | exact ar368 e2 hi2 hn | (first | lia | omega))
      rw [lexI_end op hop ns ms i hn' (by (first | exact ar369 e1 hi1 | (first | lia | omega))) (by (first | exact ar369 e2 hi2 | (first | lia | omega)))] at h
      simpa [e1, e2] using h
    have goes : ∀ a t c u, vs.toArray[((i : Nat) : Int).toNat]? = some (.int a t) → us.toArray[((i : Nat) : Int).toNat]? = some (.int c u) →
        (a = c → wpAny (model prog w) A.in1 (Builtin.«list.__eq__.loop» ⟨[.ref l, .ref b, rawInt ((i : Int) + 1), rawInt code], []⟩) (fun fin s' => match fin with | .done f => R (.ok f) s' | .again c' => c'.quiet = true ∧ codeAny (model prog w) A c' R s') (fun e s' => R (.error e) s') ⟨hp, g, d, tk, os⟩) ∧
        (a ≠ c → R (.ok (.ret (.bool (opI op a c)))) ⟨hp, g, d, tk, os⟩) := fun a t c u hx hy => by
      have hx' : vs[i]? = some (.int a t) := by simpa using hx
      have hy' : us[i]? = some (.int c u) := by simpa using hy
      obtain ⟨a', t', q, ha⟩ := ints_at h1 hx'
      cases q
      obtain ⟨c', u', q, hc⟩ := ints_at h2 hy'
      cases q
      have f1 := (List.getElem?_eq_some_iff.mp ha)
      have f2 := (List.getElem?_eq_some_iff.mp hc)
      have k1 := f1.1
      have k2 := f2.1
      rw [List.drop_eq_getElem_cons f1.1, f1.2, List.drop_eq_getElem_cons f2.1, f2.2] at h
      refine ⟨fun hac => ?_, fun hac => ?_⟩
      · simp only [lexI, hac, if_true] at h
        rw [hcc]
        exact ih (vs.length - (i + 1)) (by (first | exact ar370 e1 hk k1 | (first | lia | omega))) (i + 1) rfl (by (first | exact ar371 e1 k1 | (first | lia | omega))) (by (first | exact ar371 e2 k2 | (first | lia | omega))) prog w A R _ ⟨hl, hb, h⟩
      · simpa only [lexI, hac, if_false] using h
    have vals : (∃ x y, vs.toArray[((i : Nat) : Int).toNat]? = some x ∧ us.toArray[((i : Nat) : Int).toNat]? = some y) → ∃ a t c u, vs.toArray[((i : Nat) : Int).toNat]? = some (.int a t) ∧ us.toArray[((i : Nat) : Int).toNat]? = some (.int c u) := fun ⟨x, y, hx, hy⟩ => by
      obtain ⟨a', t', rfl, ha⟩ := ints_at h1 (i := i) (v := x) (by simpa using hx)
      obtain ⟨c', u', rfl, hc⟩ := ints_at h2 (i := i) (v := y) (by simpa using hy)
      exact ⟨_, _, _, _, hx, hy⟩
    clear h ih hcc hk hi1 hi2 h1 h2 e1 e2 hop
    rcases hoc with ⟨rfl, rfl⟩ | ⟨rfl, rfl⟩ | ⟨rfl, rfl⟩ | ⟨rfl, rfl⟩
    · wp_walk using AutoSeq1.wpAny_loadPart' hl, AutoSeq1.wpAny_loadPart' hb
      cases hx : vs.toArray[((i : Nat) : Int).toNat]? with
      | none =>
        wp_walk using AutoSeq1.wpAny_loadPart' hl, AutoSeq1.wpAny_loadPart' hb
        have := ends (.inl hx)
        simp only [opI, Int.ofNat_lt, Int.ofNat_le] at this
        exact this
      | some x =>
        cases hy : us.toArray[((i : Nat) : Int).toNat]? with
        | none =>
          wp_walk using AutoSeq1.wpAny_loadPart' hl, AutoSeq1.wpAny_loadPart' hb
          have := ends (.inr hy)
          simp only [opI, Int.ofNat_lt, Int.ofNat_le] at this
          exact this
        | some y =>
          obtain ⟨a, t, c, u, q1, q2⟩ := vals ⟨x, y, hx, hy⟩
          rw [hx] at q1; cases q1
          rw [hy] at q2; cases q2
          obtain ⟨g1, g2⟩ := goes a t c u hx hy
          refine wpAny_bind (wpAny_eqBool_int ?_)
          by_cases hac : a = c
          · rw [show (a == c) = true by simpa using hac]
            wp_walk
            exact ⟨plainId_quiet MeetsSeq3.plain_eq_loop _, codeAny_builtin MeetsSeq3.entry_eq_loop (by
              rw [Around.under_plainId MeetsSeq3.plain_eq_loop _]
              exact g1 hac)⟩
          · rw [show (a == c) = false by simpa using hac]
            wp_walk using AutoSeq1.wpAny_loadPart' hl, AutoSeq1.wpAny_loadPart' hb
            rw [hx, hy]
            exact wpAny_bind (PyProof.Rows.lt_int (wpAny_pure (g2 hac)))
    · wp_walk using AutoSeq1.wpAny_loadPart' hl, AutoSeq1.wpAny_loadPart' hb
      cases hx : vs.toArray[((i : Nat) : Int).toNat]? with
      | none =>
        wp_walk using AutoSeq1.wpAny_loadPart' hl, AutoSeq1.wpAny_loadPart' hb
        have := ends (.inl hx)
        simp only [opI, Int.ofNat_lt, Int.ofNat_le] at this
        exact this
      | some x =>
        cases hy : us.toArray[((i : Nat) : Int).toNat]? with
        | none =>
          wp_walk using AutoSeq1.wpAny_loadPart' hl, AutoSeq1.wpAny_loadPart' hb
          have := ends (.inr hy)
          simp only [opI, Int.ofNat_lt, Int.ofNat_le] at this
          exact this
        | some y =>
          obtain ⟨a, t, c, u, q1, q2⟩ := vals ⟨x, y, hx, hy⟩
          rw [hx] at q1; cases q1
          rw [hy] at q2; cases q2
          obtain ⟨g1, g2⟩ := goes a t c u hx hy
          refine wpAny_bind (wpAny_eqBool_int ?_)
          by_cases hac : a = c
          · rw [show (a == c) = true by simpa using hac]
            wp_walk
            exact ⟨plainId_quiet MeetsSeq3.plain_eq_loop _, codeAny_builtin MeetsSeq3.entry_eq_loop (by
              rw [Around.under_plainId MeetsSeq3.plain_eq_loop _]
              exact g1 hac)⟩
          · rw [show (a == c) = false by simpa using hac]
            wp_walk using AutoSeq1.wpAny_loadPart' hl, AutoSeq1.wpAny_loadPart' hb
            rw [hx, hy]
            exact wpAny_bind (PyProof.Rows.le_int (wpAny_pure (g2 hac)))
    · wp_walk using AutoSeq1.wpAny_loadPart' hl, AutoSeq1.wpAny_loadPart' hb
      cases hx : vs.toArray[((i : Nat) : Int).toNat]? with
      | none =>
        wp_walk using AutoSeq1.wpAny_loadPart' hl, AutoSeq1.wpAny_loadPart' hb
        have := ends (.inl hx)
        simp only [opI, Int.ofNat_lt, Int.ofNat_le] at this
        exact this
      | some x =>
        cases hy : us.toArray[((i : Nat) : Int).toNat]? with
        | none =>
          wp_walk using AutoSeq1.wpAny_loadPart' hl, AutoSeq1.wpAny_loadPart' hb
          have := ends (.inr hy)
          simp only [opI, Int.ofNat_lt, Int.ofNat_le] at this
          exact this
        | some y =>
          obtain ⟨a, t, c, u, q1, q2⟩ := vals ⟨x, y, hx, hy⟩
          rw [hx] at q1; cases q1
          rw [hy] at q2; cases q2
          obtain ⟨g1, g2⟩ := goes a t c u hx hy
          refine wpAny_bind (wpAny_eqBool_int ?_)
          by_cases hac : a = c
          · rw [show (a == c) = true by simpa using hac]
            wp_walk
            exact ⟨plainId_quiet MeetsSeq3.plain_eq_loop _, codeAny_builtin MeetsSeq3.entry_eq_loop (by
              rw [Around.under_plainId MeetsSeq3.plain_eq_loop _]
              exact g1 hac)⟩
          · rw [show (a == c) = false by simpa using hac]
            wp_walk using AutoSeq1.wpAny_loadPart' hl, AutoSeq1.wpAny_loadPart' hb
            rw [hx, hy]
            exact wpAny_bind (PyProof.Rows.gt_int (wpAny_pure (g2 hac)))
    · wp_walk using AutoSeq1.wpAny_loadPart' hl, AutoSeq1.wpAny_loadPart' hb
      cases hx : vs.toArray[((i : Nat) : Int).toNat]? with
      | none =>
        wp_walk using AutoSeq1.wpAny_loadPart' hl, AutoSeq1.wpAny_loadPart' hb
        have := ends (.inl hx)
        simp only [opI, Int.ofNat_lt, Int.ofNat_le] at this
        exact this
      | some x =>
        cases hy : us.toArray[((i : Nat) : Int).toNat]? with
        | none =>
          wp_walk using AutoSeq1.wpAny_loadPart' hl, AutoSeq1.wpAny_loadPart' hb
          have := ends (.inr hy)
          simp only [opI, Int.ofNat_lt, Int.ofNat_le] at this
          exact this
        | some y =>
          obtain ⟨a, t, c, u, q1, q2⟩ := vals ⟨x, y, hx, hy⟩
          rw [hx] at q1; cases q1
          rw [hy] at q2; cases q2
          obtain ⟨g1, g2⟩ := goes a t c u hx hy
          refine wpAny_bind (wpAny_eqBool_int ?_)
          by_cases hac : a = c
          · rw [show (a == c) = true by simpa using hac]
            wp_walk
            exact ⟨plainId_quiet MeetsSeq3.plain_eq_loop _, codeAny_builtin MeetsSeq3.entry_eq_loop (by
              rw [Around.under_plainId MeetsSeq3.plain_eq_loop _]
              exact g1 hac)⟩
          · rw [show (a == c) = false by simpa using hac]
            wp_walk using AutoSeq1.wpAny_loadPart' hl, AutoSeq1.wpAny_loadPart' hb
            rw [hx, hy]
            exact wpAny_bind (PyProof.Rows.ge_int (wpAny_pure (g2 hac)))
end
end Mq
set_option tactic.hygienic false
namespace Mq
open PySem PySem.Spec PySem.Calls PyProof.Rows PySem.W
section
variable {prog : Program} {w : World} {Z0 : Fz} {k : Nat} {mg mb : Str → Option Value} {Z : Fz} {v u : Value} {ns ms : List Int}
section
variable (l b : Addr) (vs us : List Value) (n n2 : Nat) (dd dd2 : Option Addr) (sl sl2 : Array (Option Value)) (h1 : IntsAre vs ns) (h2 : IntsAre us ms)
include h1 h2
theorem list_ltAt : Meets (Builtin.«list.__lt__» ⟨[.ref l, .ref b], []⟩) (fun A R s => s.heap.get? l = some { cls := .type "list", dict := dd, data := .seq vs.toArray n, slots := sl } ∧ s.heap.get? b = some { cls := .type "list", dict := dd2, data := .seq us.toArray n2, slots := sl2 } ∧ R (.ok (.ret (.bool (lexI .Lt ns ms)))) s) := by
  intro prog w A R s h
  obtain ⟨hp, g, d, tk, os⟩ := s; obtain ⟨hl, hb, h⟩ := h
  have f3 := AutoSeq1.sub_list_list
  wp_walk using AutoSeq1.wpAny_loadPart' hl, AutoSeq1.wpAny_loadPart' hb
  exact ⟨plainId_quiet MeetsSeq3.plain_eq_loop _, codeAny_builtin MeetsSeq3.entry_eq_loop (by
    rw [Around.under_plainId MeetsSeq3.plain_eq_loop _]
    exact cmp_loopAt .Lt 0 (.inl ⟨rfl, rfl⟩) l b vs us n n2 dd dd2 sl sl2 ns ms h1 h2 _ 0 rfl (Nat.zero_le _) (Nat.zero_le _) prog w A R _ ⟨hl, hb, h⟩)⟩
theorem list_leAt : Meets (Builtin.«list.__le__» ⟨[.ref l, .ref b], []⟩) (fun A R s => s.heap.get? l = some { cls := .type "list", dict := dd, data := .seq vs.toArray n, slots := sl } ∧ s.heap.get? b = some { cls := .type "list", dict := dd2, data := .seq us.toArray n2, slots := sl2 } ∧ R (.ok (.ret (.bool (lexI .LtE ns ms)))) s) := by
  intro prog w A R s h
  obtain ⟨hp, g, d, tk, os⟩ := s; obtain ⟨hl, hb, h⟩ := h
  have f3 := AutoSeq1.sub_list_list
  wp_walk using AutoSeq1.wpAny_loadPart' hl, AutoSeq1.wpAny_loadPart' hb
  exact ⟨plainId_quiet MeetsSeq3.plain_eq_loop _, codeAny_builtin MeetsSeq3.entry_eq_loop (by
    rw [Around.under_plainId MeetsSeq3.plain_eq_loop _]
    exact cmp_loopAt .LtE 1 (.inr (.inl ⟨rfl, rfl⟩)) l b vs us n n2 dd dd2 sl sl2 ns ms h1 h2 _ 0 rfl (Nat.zero_le _) (Nat.zero_le _) prog w A R _ ⟨hl, hb, h⟩)⟩
theorem list_gtAt : Meets (Builtin.«list.__gt__» ⟨[.ref l, .ref b], []⟩) (fun A R s => s.heap.get? l = some { cls := .type "list", dict := dd, data := .seq vs.toArray n, slots := sl } ∧ s.heap.get? b = some { cls := .type "list", dict := dd2, data := .seq us.toArray n2, slots := sl2 } ∧ R (.ok (.ret (.bool (lexI .Gt ns ms)))) s) := by
  intro prog w A R s h
  obtain ⟨hp, g, d, tk, os⟩ := s; obtain ⟨hl, hb, h⟩ := h
  have f3 := AutoSeq1.sub_list_list
  wp_walk using AutoSeq1.wpAny_loadPart' hl, AutoSeq1.wpAny_loadPart' hb
  exact ⟨plainId_quiet MeetsSeq3.plain_eq_loop _, codeAny_builtin MeetsSeq3.entry_eq_loop (by
    rw [Around.under_plainId MeetsSeq3.plain_eq_loop _]
    exact cmp_loopAt .Gt 4 (.inr (.inr (.inl ⟨rfl, rfl⟩))) l b vs us n n2 dd dd2 sl sl2 ns ms h1 h2 _ 0 rfl (Nat.zero_le _) (Nat.zero_le _) prog w A R _ ⟨hl, hb, h⟩)⟩
theorem list_geAt : Meets (Builtin.«list.__ge__» ⟨[.ref l, .ref b], []⟩) (fun A R s => s.heap.get? l = some { cls := .type "list", dict := dd, data := .seq vs.toArray n, slots := sl } ∧ s.heap.get? b = some { cls := .type "list", dict := dd2, data := .seq us.toArray n2, slots := sl2 } ∧ R (.ok (.ret (.bool (lexI .GtE ns ms)))) s) := by
  intro prog w A R s h
  obtain ⟨hp, g, d, tk, os⟩ := s; obtain ⟨hl, hb, h⟩ := h
  have f3 := AutoSeq1.sub_list_list
  wp_walk using AutoSeq1.wpAny_loadPart' hl, AutoSeq1.wpAny_loadPart' hb
  exact ⟨plainId_quiet MeetsSeq3.plain_eq_loop _, codeAny_builtin MeetsSeq3.entry_eq_loop (by
    rw [Around.under_plainId MeetsSeq3.plain_eq_loop _]
    exact cmp_loopAt .GtE 5 (.inr (.inr (.inr ⟨rfl, rfl⟩))) l b vs us n n2 dd dd2 sl sl2 ns ms h1 h2 _ 0 rfl (Nat.zero_le _) (Nat.zero_le _) prog w A R _ ⟨hl, hb, h⟩)⟩
end
theorem op_cmp_ints (op : CmpOp) (ho : op = .Lt ∨ op = .LtE ∨ op = .Gt ∨ op = .GtE) (h1 : Rep Z v (.list (pInts ns))) (h2 : Rep Z u (.list (pInts ms))) (hk : 1 ≤ k) : Op prog w Z0 k Z (compareOp op v u) (.bool (lexI op ns ms)) := fun s A E r hi => by
  obtain ⟨l, vs, rfl, hl, r1⟩ := h1.isList hi
  obtain ⟨l', us, rfl, hl', r2⟩ := h2.isList hi
  obtain ⟨⟨cls, dd, data, sl⟩, ho1, hc, n, hd⟩ := id hl
  obtain ⟨⟨cls2, dd2, data2, sl2⟩, ho2, hc2, n2, hd2⟩ := id hl'
  simp only at hc hd hc2 hd2
  subst hc hd hc2 hd2
  have hu : A.units < cLine := by have := r.units; (first | exact ar372 this | (first | lia | omega))
  have fin : ∀ x : Bool, Value.bool x ≠ Value.notImplemented := fun x h => nomatch h
  rcases ho with rfl | rfl | rfl | rfl
  · exact richCompare_meets_room (op := .Lt) ⟨_, ho1, rfl⟩ ⟨_, ho2, rfl⟩ PySem.F.slot_list_lt PySem.F.entry_list_lt (PySem.F.args_list_lt_2 _ _) (list_ltAt l l' vs us n n2 dd dd2 sl sl2 r1.toInts r2.toInts)
      ⟨ho1, ho2, ⟨fin _, ⟨Z, .refl hi, .bool _⟩⟩⟩ hu
  · exact richCompare_meets_room (op := .LtE) ⟨_, ho1, rfl⟩ ⟨_, ho2, rfl⟩ PySem.F.slot_list_le PySem.F.entry_list_le (PySem.F.args_list_le_2 _ _) (list_leAt l l' vs us n n2 dd dd2 sl sl2 r1.toInts r2.toInts)
      ⟨ho1, ho2, ⟨fin _, ⟨Z, .refl hi, .bool _⟩⟩⟩ hu
  · exact richCompare_meets_room (op := .Gt) ⟨_, ho1, rfl⟩ ⟨_, ho2, rfl⟩ PySem.F.slot_list_gt PySem.F.entry_list_gt (PySem.F.args_list_gt_2 _ _) (list_gtAt l l' vs us n n2 dd dd2 sl sl2 r1.toInts r2.toInts)
      ⟨ho1, ho2, ⟨fin _, ⟨Z, .refl hi, .bool _⟩⟩⟩ hu
  · exact richCompare_meets_room (op := .GtE) ⟨_, ho1, rfl⟩ ⟨_, ho2, rfl⟩ PySem.F.slot_list_ge PySem.F.entry_list_ge (PySem.F.args_list_ge_2 _ _) (list_geAt l l' vs us n n2 dd dd2 sl sl2 r1.toInts r2.toInts)
      ⟨ho1, ho2, ⟨fin _, ⟨Z, .refl hi, .bool _⟩⟩⟩ hu
theorem op_eq_ints (h1 : Rep Z v (.list (pInts ns))) (h2 : Rep Z u (.list (pInts ms))) (hk : 9 ≤ k) : Op prog w Z0 k Z (compareOp .Eq v u) (.bool (decide (ns = ms))) := fun s A E r hi => by
  obtain ⟨l, vs, rfl, hl, r1⟩ := h1.isList hi
  obtain ⟨l', vs', rfl, hl', r2⟩ := h2.isList hi
  exact ke_eq_ints hl hl' r1.toInts r2.toInts (r.u64 hk) ⟨Z, .refl hi, .bool _⟩
end
variable {w : World} {Z0 : Fz} {mg mb : Str → Option Value}
theorem fn_answers (K : Kit w Z0 mg mb) (k : Nat) (hk : 1 ≤ k) (d e : PV) (b : CmpOp → Bool) (h : ∀ op ∈ [CmpOp.Lt, .LtE, .Eq, .NotEq, .GtE, .Gt], ∀ Z v u, LeZ Z0 Z → Rep Z v d → Rep Z u e → Op prg w Z0 k Z (compareOp op v u) (.bool (b op))) :
    Fn prg w Z0 (k + 1) (.ref 101) [d, e] (.str (ansText (b .Lt) (b .LtE) (b .Eq) (b .NotEq) (b .GtE) (b .Gt))) := by
  refine Fn.mk (names := ["one", "other"]) K.base (K.topT 101 _ rfl rfl) rfl (K.codeT rfl rfl rfl rfl) rfl rfl rfl (bind2 fun a b => rfl) (by decide) (by decide) rfl rfl (fun L => ?_)
  refine Bd.ret (Ev.callB (Ev.globV K.base (K.bl rfl rfl)) (Evs.cons (Ev.list (ds := [.bool (b .Lt), .bool (b .LtE), .bool (b .Eq), .bool (b .NotEq), .bool (b .GtE), .bool (b .Gt)]) (Evs.cons (Ev.cmp (Ev.name rfl) (Ev.name rfl) (h _ (by simp))) (Evs.cons (Ev.cmp (Ev.name rfl) (Ev.name rfl) (h _ (by simp))) (Evs.cons (Ev.cmp (Ev.name rfl) (Ev.name rfl) (h _ (by simp)))
    (Evs.cons (Ev.cmp (Ev.name rfl) (Ev.name rfl) (h _ (by simp))) (Evs.cons (Ev.cmp (Ev.name rfl) (Ev.name rfl) (h _ (by simp))) (Evs.cons (Ev.cmp (Ev.name rfl) (Ev.name rfl) (h _ (by simp))) Evs.nil))))))) Evs.nil) fun Z vs _ hr => ?_)
  obtain ⟨_, rfl, x1⟩ := hr.one_inv
  exact op_repr6 x1 hk
end Mq
set_option tactic.hygienic false
namespace Mq
open PySem PySem.Spec PySem.Calls PyProof.Rows PySem.W
variable {prog : Program} {w : World} {Z0 : Fz} {k : Nat} {mg mb : Str → Option Value}
theorem lookup_nodup {β : Type} {l : List (Str × β)} {x : Str} {v : β} (hn : (l.map (·.1)).Nodup) (hm : (x, v) ∈ l) : l.lookup x = some v := by
  induction l with
  | nil => cases hm
  | cons p l ih =>
    obtain ⟨n, u⟩ := p
    rw [List.map_cons, List.nodup_cons] at hn
    rcases List.mem_cons.mp hm with e | hm'
    · cases e; simp
    · have hne : x ≠ n := by
        rintro rfl
        exact hn.1 (List.mem_map.mpr ⟨(x, v), hm', rfl⟩)
      have : (x == n) = false := by simpa using hne
      rw [List.lookup_cons, this]
      exact ih hn.2 hm'
theorem lookup_app {ρ ρ' : PEnv} {x : Str} {sl : Slot} (h : (ρ ++ ρ').lookup x = some sl) : ρ.lookup x = some sl ∨ ρ'.lookup x = some sl := by
  induction ρ with
  | nil => exact .inr h
  | cons p ρ ih =>
    obtain ⟨y, s⟩ := p
    rw [List.cons_append] at h
    by_cases q : x = y
    · subst q; simp at h; left; simp [h]
    · rw [lookup_cons_ne q] at h ⊢
      exact ih h
/-- what a closure's name holds -/
noncomputable def FreeOk (Z0 : Fz) (fd : FuncData) (ρf : PEnv) : Prop := ∀ y sl, ρf.lookup y = some sl → ∃ d c oc v, sl = .fz d ∧ fd.scope.names.lookup y = some .free ∧ fd.closure.lookup y = some c ∧ Z0 c = some oc ∧ oc.data = .cell (some v) ∧ Rep Z0 v d
theorem FreeOk.nil {fd : FuncData} : FreeOk Z0 fd [] := fun y sl h => by simp at h
/-- a function with a closure or with defaults, no cell of its own -/
theorem Fn.mkD {f : Addr} {o : Obj} {fd : FuncData} {body : List Stmt} {names : List Str} {ds : List PV} {d : PV} (ρf : PEnv) (B : Base Z0 mg mb) (ho : Z0 f = some o) (hdata : o.data = .func fd) (hcd : ∀ h, InH Z0 h → h.CodeRec fd.code fd.qualname)
    (hbody : fd.body = .stmts body) (hlen : names.length = ds.length) (hbind : ∀ (s : Shared) vs, vs.length = ds.length → InH Z0 s.heap → BindsTo s fd ⟨vs, []⟩ (names.zip vs)) (hnd : names.Nodup) (hcell : ∀ x ∈ fd.scope.names, x.2 ≠ .cell)
    (hkind : ∀ x ∈ names, fd.scope.names.lookup x = some .local) (hgl : fd.globals = mainGlobals) (hbl : fd.builtins = builtinsNs) (hfree : FreeOk Z0 fd ρf)
    (hB : ∀ L, Bd prog w Z0 k (callEnv fd L f) (names.zip (ds.map .fz) ++ ρf) body d)
    (hco : fd.scope.isCoroutine = false := by rfl) (hgen : fd.scope.isGenerator = false := by rfl) (hk : fd.scope.kind = .function := by rfl) : Fn prog w Z0 (k + 1) (.ref f) ds d := fun Z s A vs r hb hi hr => by
  have h0 : InH Z0 s.heap := hi.of_le hb
  have hvl := hr.length
  refine codeAny_call_def (by have := r.depth; (first | exact ar35 this | (first | lia | omega))) (hi.get (hb _ _ ho)) hdata (B.lim _ h0) (hcd _ h0) hbody (hbind s vs hvl h0) hcell (fun x hx => ?_) (fun h₁ hns hkeep => ?_) hco hgen hk
  · exact hkind _ (List.of_mem_zip (a := x.1) (b := x.2) hx).1
  · have hLn : s.heap.get? s.heap.objs.size = none := get?_size _
    have hnz : ((names.zip vs).map (·.1)).Nodup := by rw [List.map_fst_zip (by (first | exact ar36 hlen hvl | (first | lia | omega)))]; exact hnd
    have hkp := (Old.of hkeep).kp
    have hsn : InH (snapZ s.heap) s.heap := snapZ_in _
    have nocell : ∀ x, (callEnv fd s.heap.objs.size f).kindOf x ≠ some .cell := fun x hx => hcell (x, .cell) (mem_of_lookup hx) rfl
    have p : PreS Z0 (snapZ s.heap) Z (callEnv fd s.heap.objs.size f) (names.zip (ds.map .fz) ++ ρf) { s with heap := h₁, toks := s.toks + (names.zip vs).length } := by
      refine ⟨⟨hb, hi.keeps hkp, hsn.keeps hkp, hk, hgl, hbl, ⟨_, hns⟩, fun x sl hx => ?_⟩, hsn.off hLn, hi.off hLn, fun x hx _ => absurd hx (nocell x), fun x y a hx _ _ _ => absurd hx (nocell x)⟩
      rcases lookup_app hx with hx | hx
      · obtain ⟨v, d', h1, rfl, h2⟩ := zip_lookup hr hx
        refine ⟨v, .inl ⟨hkind _ (List.of_mem_zip h1).1, _, hns, ?_⟩, h2⟩
        exact lookup_nodup (by rw [List.map_reverse]; unfold List.Nodup; rw [List.pairwise_reverse]; exact hnz.imp fun h => Ne.symm h) (List.mem_reverse.mpr h1)
      · obtain ⟨d', c, oc, v, rfl, h2, h3, h4, h5, h6⟩ := hfree x sl hx
        exact ⟨v, .inr ⟨.inr h2, c, h3, oc, hkeep _ _ (hi.get (hb _ _ h4)), h5⟩, Rep.mono hb h6⟩
    refine wpAny_mono (hB s.heap.objs.size _ Z _ _ _ (r.deeper _) p) (fun fl s' h' => ?_) fun _ _ x => x
    obtain ⟨v, Z', rfl, st, hS, hZ, rp⟩ := h'
    have old : Old s.heap s'.heap := fun b x e => by
      by_cases t : Tb x
      · exact st.tabs b x (hkeep b x e) t
      · exact .inl (hS.get (snapZ_some e t))
    refine ⟨v, rfl, Z', ⟨?_, old, st.le, hZ, fun a x e e' => ?_⟩, rp⟩
    · obtain ⟨h₂, t₂, rfl⟩ := st.same
      exact ⟨_, _, rfl⟩
    · have hn := st.fresh a x e e'
      cases q : s.heap.get? a with
      | none => rfl
      | some y =>
        by_cases t : Tb y
        · rcases old a y q with q' | ⟨_, _, _, _, q'⟩
          · rw [hZ.get e] at q'; cases q'; exact absurd t (hZ.nt e)
          · rw [hZ.get e] at q'; cases q'; exact absurd (Tb.table _) (hZ.nt e)
        · rw [snapZ_some q t] at hn; cases hn
end Mq
set_option tactic.hygienic false
namespace Mq
open PySem PySem.Spec PySem.Calls PyProof.Rows PySem.W
variable {prog : Program} {w : World} {Z0 : Fz} {k : Nat} {mg mb : Str → Option Value}
theorem iter_list {A : Around} {E : Value → Shared → Prop} {s : Shared} {Z : Fz} {v : Value} {xs : List PV} {Q : Value → Shared → Prop} (hr : Rep Z v (.list xs)) (hi : InH Z s.heap)
    (h : ∀ o fp P St, (∀ A', A'.handled = none → It prog w A' Z xs s.heap.objs.size fp P St) → o.isFreed = false → St 0 (s.heap.push o) → Q (.ref s.heap.objs.size) { s with heap := s.heap.push o }) : wpAny (model prog w) A (pyIter v) Q E s := by
  have ne : ∀ b x, s.heap.get? b = some x → b ≠ s.heap.objs.size := fun b x e => Nat.ne_of_lt (Heap.lt_size e)
  cases hr with
  | @list a o n vs _ e c _ dd r =>
    have hl : s.heap.IsList a vs.toArray := ⟨_, hi.get e, c, _, dd⟩
    refine wpAny_pyIter_list hl (h _ [s.heap.objs.size, a] (fun i v => vs.toArray[i]? = some v) (fun i h => h.IsListIter s.heap.objs.size a i ∧ h.IsList a vs.toArray) (fun A' hh => ⟨?_, ?_, ?_, ?_⟩) rfl ⟨⟨_, Heap.get?_push_size _ rfl, rfl, rfl⟩, hl.push _⟩)
    · have W := Walks.list (prog := prog) (w := w) hh s.heap.objs.size a (ne _ _ (hi.get e)) vs.toArray
      have : vs.toArray.size = xs.length := by rw [List.size_toArray, r.length]
      rw [this] at W; exact W
    · intro b hb; simp at hb; rcases hb with rfl | rfl
      · exact .inl rfl
      · exact .inr ⟨_, e⟩
    · intro i v _ hv; exact r.get (by simpa using hv)
    · rintro i h ⟨⟨o, h1, h2, h3⟩, _⟩; exact ⟨o, _, _, h1, h2, .inl rfl, h3⟩
theorem call_iter {A : Around} {E : Value → Shared → Prop} {s : Shared} {v : Value} {Q : Value → Shared → Prop} (h : wpAny (model prog w) A.in1 (pyIter v) Q E s) : wpAny (model prog w) A (call (.builtin "iter") [v]) Q E s := by
  refine call_function_entry (by decide +kernel) (by decide +kernel) kdk_entry_iter (kdk_args_iter _) ?_
  unfold Builtin.«iter»
  refine wpAny_bind (m := someArgs "iter" 1 2 _) (wpAny_of_eq (a := [v]) (by first | rfl | kernel_rfl!) ?_)
  show wpAny _ _ (pyIter v >>= _) _ _ _
  exact wpAny_bind (wpAny_mono h (fun r s' q => wpAny_pure ⟨_, rfl, q⟩) fun _ _ x => x)
/-- it = iter(seq); one statement; for target in it: body -/
theorem Bd.iterLoop {env : Env} {ρ : PEnv} {itn fx : Str} {np fp cp ap fop ip : Pos} {seq target : Expr} {midS : Stmt} {body rest : List Stmt} {xs : List PV} {d : PV} (hf : Ev prog w Z0 k env ρ (.Name fx fp) (.val (.builtin "iter"))) (hseq : Ev prog w Z0 k env ρ seq (.list xs)) (hx : env.kindOf itn = some .local)
    {ρ₂ : Addr → PEnv} (mid : ∀ I, X1 prog w Z0 k env ((itn, .fz (.val (.ref I))) :: ρ) midS (ρ₂ I)) (hit : ∀ I, (ρ₂ I).lookup itn = some (.fz (.val (.ref I)))) (En : Addr → Nat → PEnv) (h0 : ∀ I x sl, (En I 0).lookup x = some sl → (ρ₂ I).lookup x = some sl)
    (step : ∀ I i x, xs[i]? = some x → ∃ ρt, Tg prog w Z0 k env (En I i) target x ρt ∧ Ex prog w Z0 k env ρt body (En I (i + 1))) (fin : ∀ I, Bd prog w Z0 k env (En I xs.length) rest d)
    (hs : swapsWith (.Call (.Name fx fp) [seq] [] cp) (some (.Name itn np)) ap.line env = pure false := by rfl) (hd : (itn == ("__debug__" : Str)) = false := by decide) (hn : (itn == ("__classdict__" : Str)) = false := by decide)
    (he : ∀ pos, backTo pos (starEach [seq] env) = (false, eval seq env) :: backTo pos (starEach [] env) := by intro _; rfl) (hp : ∀ pos, (backTo pos (starEach [seq] env)).any (·.1) = false := by intro _; rfl)
    (hst1 : starEach [seq] env = (false, eval seq env) :: starEach [] env := by rfl) (hfs : ∀ x, foldedSetIterable (.Name itn ip) env x = pure x := by intro _; rfl) :
    Bd prog w Z0 k env ρ (.Assign [.Name itn np] (.Call (.Name fx fp) [seq] [] cp) ap :: midS :: .For target (.Name itn ip) body [] fop :: rest) d := fun S Z s A E r p => by
  refine wpAny_execs_cons (wpAny_Assign_Name (wpAny_Call_NameR (wpAny_mono (hf S Z s A E r p.toPre) (fun v s₁ h₁ => ?_) fun _ _ x => x)) hs)
  obtain ⟨Z₁, e₁, r₁⟩ := h₁
  obtain rfl := r₁.isVal
  have p₁ := p.ext e₁
  refine callWith_builtin (hp cp) ?_
  have ha := (Evs.cons hseq Evs.nil hst1).run S Z₁ s₁ A E cp r p₁.toPre
  rw [he cp] at ha ⊢
  refine evalArgs_plain (wpAny_mono ha (fun vs s₂ h₂ => ?_) fun _ _ x => x)
  obtain ⟨Z₂, e₂, r₂⟩ := h₂
  have p₂ := p₁.ext e₂
  obtain ⟨_, rfl, x1⟩ := r₂.one_inv
  refine call_iter (iter_list x1 p₂.fin fun o fp P St it hof hst => ?_)
  have hIn := get?_size s₂.heap
  have e₃ : Ext s₂ Z₂ { s₂ with heap := s₂.heap.push o } Z₂ := Ext.keeps (t := s₂.toks) p₂.fin fun _ _ e => Heap.get?_push_of_some _ e
  generalize hI : s₂.heap.objs.size = I at *
  have hSI : S I = none := p₂.snap.off hIn
  have hZI : Z₂ I = none := p₂.fin.off hIn
  have p₃ := p₂.ext e₃
  obtain ⟨oI, us, T, hoI, hcI, _, hdI⟩ := (it A r.handled).fld 0 _ hst
  refine p₃.store (sl := .fz (.val (.ref I))) (.inl hx) (.val _) fun s₄ st₄ p₄ _ => ?_
  refine wpAny_execs_cons (wpAny_mono (mid I S Z₂ s₄ A E r p₄) (fun f s₅ h₅ => ?_) fun _ _ x => x)
  obtain ⟨rfl, Z₅, st₅, p₅⟩ := h₅
  have st₂₅ := st₄.trans st₅
  have hoI₅ : s₅.heap.get? I = some oI := st₂₅.keepF I oI us hoI hdI (Tb.ty hcI)
  have hst₅ : St 0 s₅.heap := (it A r.handled).W.frame _ _ _ hst fun b hb x e => by
    rcases (it A r.handled).fp b hb with rfl | ⟨o', hz⟩
    · rw [show (s₂.heap.push o).get? b = some oI from hoI] at e; cases e; exact hoI₅
    · have := p₃.fin.get hz
      rw [show (s₂.heap.push o).get? b = some x from e] at this; cases this
      exact p₅.fin.get (st₂₅.le _ _ hz)
  have hZI₅ : Z₅ I = none := by
    cases q : Z₅ I with
    | none => rfl
    | some y => exact absurd hdI (st₂₅.freshF I y oI us q hZI hoI (Tb.ty hcI))
  obtain ⟨u, q1, q2⟩ := p₅.vars itn _ (hit I)
  cases Rep.isVal q2
  have st : Stp S Z₂ s₂ s₅ Z₅ := (e₃.stp p₂.snap).trans st₂₅
  refine wpAny_execs_cons (wpAny_For (p₅.toPre.read q1 ((it A r.handled).W.self 0 _ _ _ hst₅ ?_) hd hn) hfs)
  refine loop_core (En I) r ((it A r.handled).mono st.le) hIn hSI hst₅ hZI₅ st (p₅.weaken (h0 I)) (step I) fun s₆ Z₆ st₆ p₆ => ?_
  refine wpAny_mono (fin I S Z₆ s₆ A E r p₆) (fun f s₇ h₇ => ?_) fun _ _ x => x
  obtain ⟨v, Z₇, rfl, st₇, q1, q2, q3⟩ := h₇
  exact ⟨v, Z₇, rfl, (((e₁.trans e₂).stp p.snap).trans st₆).trans st₇, q1, q2, q3⟩
end Mq
set_option tactic.hygienic false
namespace Mq
open PySem PySem.Spec PySem.Calls PyProof.Rows PySem.W
section
variable {prog : Program} {w : World} {Z0 : Fz} {k : Nat} {Z : Fz} {v u : Value}
/-- a list is not another thing -/
theorem op_is_list {xs : List PV} {a : Addr} {o : Obj} (h1 : Rep Z v (.list xs)) (h2 : Rep Z u (.val (.ref a))) (ha : Z a = some o) (hc : o.cls ≠ .type "list") : Op prog w Z0 k Z (compareOp .Is v u) (.bool false) := fun s A E r hi => by
  cases h2.isVal
  cases h1 with
  | @list l ol n vs _ e c _ d r1 =>
    have hne : l ≠ a := by rintro rfl; rw [e] at ha; cases ha; exact hc c
    exact wpAny_is_ref_other hne (hi.get e) (hi.get ha) (by rw [c]; decide) ⟨Z, .refl hi, .bool _⟩
end
variable {w : World} {Z0 : Fz} {mg mb : Str → Option Value}
theorem fn_reduce (K : Kit w Z0 mg mb) (k : Nat) {f : Addr} {fo : Obj} {fd : FuncData} (hf : Z0 f = some fo) (hfd : fo.data = .func fd) (xs : List PV) (acc : Nat → PV) (a0 : List PV) (h0 : acc 0 = .list a0)
    (hF : ∀ i x, xs[i]? = some x → Fn prg w Z0 k (.ref f) [acc i, x] (acc (i + 1))) : Fn prg w Z0 (k + 1) (.ref 30) [.val (.ref f), .list xs, acc 0] (acc xs.length) := by
  refine Fn.mkD (names := ["function", "sequence", "initial"]) [] K.base (K.topT 30 _ rfl rfl) rfl (K.codeT rfl rfl rfl rfl) rfl rfl (fun s vs h hi => ?_) (by decide) (by decide) (by decide) rfl rfl FreeOk.nil (fun L => ?_)
  · obtain ⟨a, b, c, rfl⟩ := three_of h
    exact BindsTo.of_defaults rfl (hi.get (K.topT 23 _ rfl rfl)) rfl rfl rfl
  · refine Bd.iterLoop (xs := xs) (Ev.globV K.base (K.bl rfl rfl)) (Ev.name rfl) rfl (ρ₂ := fun I => [("value", .fz (acc 0)), ("it", .fz (.val (.ref I))), ("function", .fz (.val (.ref f)))]) (fun I => ?_) (fun I => rfl) (fun I i => [("value", .fz (acc i)), ("function", .fz (.val (.ref f)))]) (fun I => Sub.cons rfl (Sub.cons rfl Sub.nil)) (fun I i x hx => ⟨_, Tg.name (.inl rfl), ?_⟩) (fun I => Bd.ret (Ev.name rfl))
    · refine X1.cond (c := false) (Tr.cmp (a := acc 0) (Ev.name rfl) (Ev.globV K.base (K.gl rfl)) fun Z v u hz h1 h2 => op_is_list (h0 ▸ h1) h2 (hz _ _ (K.topT 22 _ rfl rfl)) (fun h => nomatch h)) (fun h => nomatch h) (fun _ => Ex.cons (X1.assign (d := acc 0) (Ev.name rfl) (.inl rfl)) (Ex.nil (Sub.cons rfl (Sub.cons rfl (Sub.cons rfl Sub.nil)))))
    · exact Ex.cons (X1.assign (Ev.callF (Ev.name rfl) (Evs.cons (Ev.name rfl) (Evs.cons (Ev.name rfl) Evs.nil)) hf hfd (hF i x hx)) (.inl rfl)) (Ex.nil (Sub.cons rfl (Sub.cons rfl Sub.nil)))
end Mq
set_option tactic.hygienic false
namespace Mq
open PySem PySem.Spec PySem.Calls PyProof.Rows PySem.W
section
variable {prog : Program} {w : World} {A : Around} {E : Value → Shared → Prop} {s : Shared}
noncomputable def fdC (name qualname : Str) (params : Arguments) (body : List Stmt) (scope : Scope) (cl : List (Str × Addr)) (T : Addr) (pm code : Value) : FuncData :=
  { name, qualname, params, body := .stmts body, scope, globals := mainGlobals, closure := cl, closureTuple := .ref T, defaults := .none, kwdefaults := .none, annotations := none, pyModule := pm, code, builtins := builtinsNs }
/-- a def with a closure, no defaults: the function that is made, and what the code's table is then -/
theorem wpAny_makeC2 {name qualname : Str} {params : Arguments} {body : List Stmt} {scope : Scope} {env : Env} {mg : Str → Option Value} {c Pl : Addr} {ps : Array Value} {cl : List (Str × Addr)} {pos : Pos} {firstLine : Nat} {Q : Value → Shared → Prop}
    (hkw : params.kwonlyargs = []) (hclos : closureFor scope env = pure cl) (hne : cl.isEmpty = false) (hdoc : docOf body = none) (hg : s.heap.Ns env.globals mg) (hgl : env.globals = mainGlobals) (hcode : env.code = .ref c) (hok : s.heap.IsCode c Pl ps) (htab : s.heap.TableAt c Pl ps)
    (hnf : codeAmong pos ps.toList = none) (hgP : env.globals ≠ Pl) (hb : s.heap.BuiltinsAt mg Pl)
    (h : ∀ (T c' : Addr) (h' : Heap) (tk : Nat), (∀ b o, b ≠ Pl → s.heap.get? b = some o → h'.get? b = some o) → s.heap.objs.size ≤ c' → s.heap.objs.size ≤ h'.objs.size → h'.IsCode c Pl (ps ++ #[rawInt pos.line, rawInt pos.col, .ref c']) → h'.TableAt c Pl (ps ++ #[rawInt pos.line, rawInt pos.col, .ref c']) → h'.CodeRec (.ref c') qualname → (∃ P', h'.TableAt c' P' #[]) →
      Q (.ref h'.objs.size) { s with heap := h'.push { cls := .type "function", data := .func (fdC name qualname params body scope cl T ((mg "__name__").getD .none) (.ref c')) }, toks := tk }) :
    wpAny (model prog w) A (makeFunction name qualname params (.stmts body) scope env [] [] [] pos firstLine) Q E s := by
  obtain ⟨bm, o, hbm, hne0, _, hneP, hbo, hcls, hdict, hdata⟩ := hb
  rw [makeFunction_eq, hkw]
  refine wpAny_bind (wpAny_pure (wpAny_bind (wpAny_pure (wpAny_bind (wpAny_pure ?_)))))
  simp only [makeTail, hclos, pure_bind, hne, Bool.false_eq_true, if_false]
  refine wpAny_bind (wpAny_newTextTuple ?_)
  have hok₁ := hok.push { cls := .type "tuple", data := .seq ((cl.mergeSort fun a b => a.1.cps.toList ≤ b.1.cps.toList).map (Value.ref ·.2)).toArray }
  have htab₁ := htab.push { cls := .type "tuple", data := .seq ((cl.mergeSort fun a b => a.1.cps.toList ≤ b.1.cps.toList).map (Value.ref ·.2)).toArray }
  refine wpAny_bind (wpAny_functionCodeX hcode hok₁ htab₁ hnf fun c' h' tk hx hge hlt hok' hrec htab' htb => ?_)
  have keep : ∀ b o, b ≠ Pl → s.heap.get? b = some o → h'.get? b = some o := fun b o hb e => hx b o hb (Heap.get?_push_of_some _ e)
  have hg' : h'.Ns env.globals mg := by
    obtain ⟨og, es, ep, hog, r⟩ := hg
    exact ⟨og, es, ep, keep _ _ hgP hog, r⟩
  refine wpAny_bind (wpAny_builtinsFor hg' hbm hne0 (keep _ _ hneP hbo) hcls hdict hdata ?_)
  refine wpAny_bind (wpAny_nsGet hg' ?_)
  simp only [hdoc]
  rw [hgl]
  have hsz : s.heap.objs.size ≤ h'.objs.size := by
    have := hge; dsimp only at this; rw [Heap.size_push] at this; (first | exact ar15 hlt this | (first | lia | omega))
  obtain ⟨P', _, _, hP'⟩ := htb
  exact wpAny_bind (wpAny_pure (wpAny_newObj_type (h s.heap.objs.size c' h' tk keep (by dsimp only at hge; rw [Heap.size_push] at hge; (first | exact ar16 hge | (first | lia | omega))) hsz hok' htab' hrec ⟨P', hP'⟩) (by size_fits)))
/-- a def with a closure, no defaults: the function that is made -/
theorem wpAny_makeC {name qualname : Str} {params : Arguments} {body : List Stmt} {scope : Scope} {env : Env} {mg : Str → Option Value} {c Pl : Addr} {ps : Array Value} {cl : List (Str × Addr)} {pos : Pos} {firstLine : Nat} {Q : Value → Shared → Prop}
    (hkw : params.kwonlyargs = []) (hclos : closureFor scope env = pure cl) (hne : cl.isEmpty = false) (hdoc : docOf body = none) (hg : s.heap.Ns env.globals mg) (hgl : env.globals = mainGlobals) (hcode : env.code = .ref c) (hok : s.heap.IsCode c Pl ps) (htab : s.heap.TableAt c Pl ps)
    (hnf : codeAmong pos ps.toList = none) (hgP : env.globals ≠ Pl) (hb : s.heap.BuiltinsAt mg Pl)
    (h : ∀ (T c' : Addr) (h' : Heap) (tk : Nat), (∀ b o, b ≠ Pl → s.heap.get? b = some o → h'.get? b = some o) → s.heap.objs.size ≤ c' → s.heap.objs.size ≤ h'.objs.size → h'.get? Pl = some (X.tableObj (ps ++ #[rawInt pos.line, rawInt pos.col, .ref c'])) → h'.CodeRec (.ref c') qualname → (∃ P', h'.TableAt c' P' #[]) →
      Q (.ref h'.objs.size) { s with heap := h'.push { cls := .type "function", data := .func (fdC name qualname params body scope cl T ((mg "__name__").getD .none) (.ref c')) }, toks := tk }) :
    wpAny (model prog w) A (makeFunction name qualname params (.stmts body) scope env [] [] [] pos firstLine) Q E s :=
  wpAny_makeC2 hkw hclos hne hdoc hg hgl hcode hok htab hnf hgP hb fun T c' h' tk keep hge hsz _ ht hrec hP => h T c' h' tk keep hge hsz ht.2 hrec hP
/-- a function that was made, with one name taken over -/
inductive CloAt (Z : Fz) (g : Addr) (name q : Str) (params : Arguments) (body : List Stmt) (scope : Scope) (x : Str) (d : PV) : Prop
  | mk (T : Addr) (pm : Value) (cc : Addr) (co : Obj) (vs : Array Value) (t : Tok) (c : Addr) (oc : Obj) (v : Value)
    (_ : Z g = some { cls := .type "function", data := .func (fdC name q params body scope [(x, c)] T pm (.ref cc)) }) (_ : Z cc = some co) (_ : co.cls = .type "code") (_ : co.data = .fields vs) (_ : vs[1]? = some (.str q t)) (_ : Z c = some oc) (_ : oc.data = .cell (some v)) (_ : Rep Z v d)
    : CloAt Z g name q params body scope x d
theorem code_maker {Z0 Z : Fz} {k : Nat} {mg mb : Str → Option Value} {f c Pl : Addr} {o : Obj} {fd : FuncData} {x name q : Str} {params : Arguments} {ibody : List Stmt} {iscope : Scope} {pos np rp : Pos} {v : Value} {d : PV} (B : Base Z0 mg mb) (r : Room A k) (hk1 : 1 ≤ k) (hle : LeZ Z0 Z) (hi : InH Z s.heap)
    (ho : Z0 f = some o) (hdata : o.data = .func fd) (hbody : fd.body = .stmts [.FunctionDef name params ibody [] none [] iscope none name pos, .Return (some (.Name name np)) rp]) (hclo : fd.closure = []) (hbind : bindArgs fd ⟨[v], []⟩ = pure [(x, v)])
    (hxc : fd.scope.names.lookup x = some .cell) (hnl : fd.scope.names.lookup name = some .local) (hcx : ∀ L, (cellsFrom (L + 1) fd.scope.names []).lookup x = some (L + 1)) (hgl : fd.globals = mainGlobals) (hbl : fd.builtins = builtinsNs) (hcode : fd.code = .ref c) (hcd : s.heap.CodeRec fd.code fd.qualname)
    (hok : s.heap.IsCode c Pl #[]) (htab : s.heap.TableAt c Pl #[]) (hPg : mainGlobals ≠ Pl) (hB : s.heap.BuiltinsAt mg Pl) (hclos : ∀ L, closureFor iscope (callEnvC fd L f) = pure [(x, L + 1)]) (hq : ∀ L, qualnameIn (callEnvC fd L f) name name = q)
    (hkw : params.kwonlyargs = []) (hkd : params.kw_defaults = []) (hdf : params.defaults = []) (hann : ∀ L, annTrees params none (callEnvC fd L f) = []) (hdoc : docOf ibody = none) (hr : Rep Z v d) (hdb : (name == ("__debug__" : Str)) = false)
    (hco : fd.scope.isCoroutine = false := by rfl) (hgen : fd.scope.isGenerator = false := by rfl) (hk : fd.scope.kind = .function := by rfl) :
    codeAny (model prog w) A (.call (.ref f) ⟨[v], []⟩) (fun r s' => ∃ g Z' ps, r = .ok (.ret (.ref g)) ∧ Mv [Pl] s Z s' Z' ∧ s'.heap.get? Pl = some (X.tableObj ps) ∧ CloAt Z' g name q params ibody iscope x d) s := by
  obtain ⟨bm, ob, hbm, hne0, hneG, hneP, hbo, hrest⟩ := hB
  have h0 : InH Z0 s.heap := hi.of_le hle
  have hPlt : Pl < s.heap.objs.size := hok.lt.2
  refine codeAny_call_cells (by have := r.depth; (first | exact ar17 this | (first | lia | omega))) (hi.get (hle _ _ ho)) hdata (B.lim _ h0) hcd hbody hbind hclo (fun y hy => ?_) (fun s₁ ic => ?_) hco hgen hk
  · simp at hy; subst hy; exact .inr ⟨hxc, by simp [hcx]⟩
  generalize hL : s.heap.objs.size = L at *
  have keep₁ := ic.toInCall.keep
  have hLn : s.heap.get? L = none := hL ▸ get?_size _
  have hcell : s₁.heap.IsCell (L + 1) (some v) := by
    have := ic.cell x (L + 1) (hcx L)
    rwa [bindC_mem (r := [(x, v)]) (x := x) (v := v) (by simp) (by simp) (by rw [show (callEnvC fd L f).kindOf x = some .cell from hxc]; decide)] at this
  have hLlt : L < s₁.heap.objs.size := by
    obtain ⟨oL, _, _, hoL, _⟩ := ic.toInCall.ns
    exact Heap.lt_size hoL
  have hsz₁ : s.heap.objs.size ≤ s₁.heap.objs.size := by (first | exact ar18 hL hLlt | (first | lia | omega))
  refine wpAny_execs_cons ?_
  rw [exec_def, hq L, defaultsOf_eq, hdf, hkd, hann L]
  refine wpAny_bind (wpAny_standAt (wpAny_bind (wpAny_holding ?_)))
  refine wpAny_bind (wpAny_pure (wpAny_bind (wpAny_holding (wpAny_pure ?_))))
  refine wpAny_holding (wpAny_bind (wpAny_pure ?_))
  refine wpAny_makeC (mg := mg) (c := c) (Pl := Pl) (ps := #[]) (cl := [(x, L + 1)]) hkw (hclos L) rfl hdoc (by show s₁.heap.Ns fd.globals mg; rw [hgl]; exact Ns_keeps (Old.of keep₁).kp (B.g _ h0)) hgl hcode (hok.keeps keep₁) (htab.keeps keep₁) rfl (by show fd.globals ≠ Pl; rw [hgl]; exact hPg)
    ⟨bm, ob, hbm, hne0, hneG, hneP, keep₁ _ _ hbo, hrest⟩ fun T c' h' tk keep₂ hc' hsz' hPl' hrec hcc => ?_
  obtain ⟨_, co, vs, tq, hcc', hco', hcd', hcq⟩ := hrec
  cases hcc'
  have hPlt' : @LT.lt Nat instLTNat Pl L := hL ▸ hok.lt.2
  have hLlt' : @LT.lt Nat instLTNat L s₁.heap.objs.size := hLlt
  have hc'' : @LE.le Nat instLENat s₁.heap.objs.size c' := hc'
  have hsz'' : @LE.le Nat instLENat s₁.heap.objs.size h'.objs.size := hsz'
  obtain ⟨P', ⟨co2, vs2, hco2, hccls, _⟩, _⟩ := hcc
  rw [hco'] at hco2; cases hco2
  have hg_ : ∀ b y, s₁.heap.get? b = some y → b < h'.objs.size := fun b y e => Nat.lt_of_lt_of_le (Heap.lt_size e) hsz'
  have hLne : L ≠ h'.objs.size := Nat.ne_of_lt (Nat.lt_of_lt_of_le hLlt hsz')
  have hPL : L ≠ Pl := by (first | exact ar19 hPlt' | (first | lia | omega))
  have hns₂ := ((by
    obtain ⟨oL, es, ep, hoL, r'⟩ := ic.toInCall.ns
    exact ⟨oL, es, ep, keep₂ _ _ hPL hoL, r'⟩ : h'.Ns L _)).push { cls := .type "function", data := .func (fdC name q params ibody iscope [(x, L + 1)] T ((mg "__name__").getD .none) (.ref c')) }
  refine wpAny_bind (wpAny_standAt (wpAny_bind (wpAny_bindName (wpAny_storeName_local (env := callEnvC fd L f) hnl hns₂ (fun h₃ hns₃ hs₃ => wpAny_pure ?_) (by show (fd.scope.kind == .class || (fd.scope.kind == .module && _)) = false; rw [hk]; rfl)))))
  refine wpAny_execs_cons (wpAny_Return_some (wpAny_Name ?_ hdb))
  refine wpAny_loadName_local (v := .ref h'.objs.size) hk hnl hns₃ (by simp) ?_
  obtain ⟨oc, hoc, hdc⟩ := hcell
  have hcL : L + 1 ≠ Pl := by (first | exact ar20 hPlt' | (first | lia | omega))
  have keep₃ : ∀ b y, b ≠ L → h'.get? b = some y → h₃.get? b = some y := fun b y hb e => (hs₃.2 b hb).trans (Heap.get?_push_of_some _ e)
  have hg₃ : h₃.get? h'.objs.size = some { cls := .type "function", data := .func (fdC name q params ibody iscope [(x, L + 1)] T ((mg "__name__").getD .none) (.ref c')) } := (hs₃.2 _ (Ne.symm hLne)).trans (Heap.get?_push_size _ rfl)
  have hccL : c' ≠ L := Nat.ne_of_gt (Nat.lt_of_lt_of_le hLlt' hc'')
  have hco₃ := keep₃ _ _ hccL hco'
  have hoc₃ := keep₃ (L + 1) _ (Nat.succ_ne_self L) (keep₂ _ _ hcL hoc)
  have hP₃ := keep₃ _ _ (Ne.symm hPL) hPl'
  have keep : ∀ b y, b ≠ Pl → s.heap.get? b = some y → h₃.get? b = some y := fun b y hb e => keep₃ _ _ (by rintro rfl; rw [hLn] at e; cases e) (keep₂ _ _ hb (keep₁ _ _ e))
  have fr : ∀ a, L ≤ a → s.heap.get? a = none := fun a ha => by
    cases e : s.heap.get? a with
    | none => rfl
    | some y => exact absurd (hL ▸ Heap.lt_size e) (Nat.not_lt.mpr ha)
  have n1 : s.heap.get? h'.objs.size = none := fr _ (by (first | exact ar21 hLlt hsz' | (first | lia | omega)))
  have n2 : s.heap.get? c' = none := fr _ (by (first | exact ar21 hLlt hc' | (first | lia | omega)))
  have n3 : s.heap.get? (L + 1) = none := fr _ (by (first | exact ar22 | (first | lia | omega)))
  have d12 : c' ≠ h'.objs.size := Nat.ne_of_lt (Heap.lt_size hco')
  have d13 : L + 1 ≠ h'.objs.size := Nat.ne_of_lt (Heap.lt_size (keep₂ _ _ hcL hoc))
  have d23 : L + 1 ≠ c' := by rintro q; have := keep₂ _ _ hcL hoc; rw [q, hco'] at this; cases this; rw [hcd'] at hdc; cases hdc
  have zP : Z Pl = none := by
    cases q' : Z Pl with
    | none => rfl
    | some y => have := hi.get q'; rw [htab.2] at this; cases this; exact absurd (Tb.table _) (hi.nt q')
  have z1 : Z h'.objs.size = none := hi.off n1
  have z2 : (Z.add h'.objs.size { cls := .type "function", data := .func (fdC name q params ibody iscope [(x, L + 1)] T ((mg "__name__").getD .none) (.ref c')) }) c' = none := by simp [Fz.add, d12, hi.off n2]
  have z3 : ((Z.add h'.objs.size { cls := .type "function", data := .func (fdC name q params ibody iscope [(x, L + 1)] T ((mg "__name__").getD .none) (.ref c')) }).add c' co) (L + 1) = none := by simp [Fz.add, d13, d23, hi.off n3]
  have le1 := Fz.le_add (o := { cls := .type "function", data := .func (fdC name q params ibody iscope [(x, L + 1)] T ((mg "__name__").getD .none) (.ref c')) }) z1
  have le2 := Fz.le_add (o := co) z2
  have le3 := Fz.le_add (o := oc) z3
  have fin0 : InH Z h₃ := hi.but zP fun b y hb e => keep b y hb e
  refine ⟨h'.objs.size, _, _, rfl, ⟨?_, fun b y hb e => .inl (keep b y (by simpa using hb) e), fun b y e => ?_, (le1.trans le2).trans le3, ((fin0.add hg₃ (Tb.ty rfl)).add hco₃ (Tb.ty hccls)).add hoc₃ (Tb.cell hdc), fun a y e e' => ?_⟩, hP₃,
    ⟨T, (mg "__name__").getD .none, c', co, vs, tq, L + 1, oc, v, le3 _ _ (le2 _ _ (Fz.add_self ..)), le3 _ _ (Fz.add_self ..), hccls, hcd', hcq, Fz.add_self .., hdc, hr.mono ((le1.trans le2).trans le3)⟩⟩
  · obtain ⟨h₁, t₁, rfl⟩ := ic.toInCall.same
    exact ⟨_, _, rfl⟩
  · by_cases hb : b = Pl
    · subst hb; exact ⟨_, hP₃⟩
    · exact ⟨y, keep b y hb e⟩
  · rcases Fz.add_cases e with ⟨rfl, rfl⟩ | e
    · exact n3
    · rcases Fz.add_cases e with ⟨rfl, rfl⟩ | e
      · exact n2
      · rcases Fz.add_cases e with ⟨rfl, rfl⟩ | e
        · exact n1
        · rw [e'] at e; cases e
end
end Mq
set_option tactic.hygienic false
namespace Mq
open PySem PySem.Spec PySem.Calls PyProof.Rows PySem.W
variable {prog : Program} {w : World} {Z0 : Fz} {k : Nat} {mg mb : Str → Option Value} {xs ys : List PV}
/-- a slice of any value, a passing one too -/
theorem Ev.sliceT {env : Env} {ρ : PEnv} {value : Expr} {lower upper step : Option Expr} {lo hi st : Option Int} {p pos : Pos} (hv : Ev prog w Z0 k env ρ value (.list xs)) (h1 : PartEv prog w Z0 k env ρ lower lo) (h2 : PartEv prog w Z0 k env ρ upper hi) (h3 : PartEv prog w Z0 k env ρ step st)
    (h0 : st ≠ some 0) (hz : xs.length ≤ 100000) (hp : ∀ (Z : Fz) (vs : List Value), RepL Z vs xs → RepL Z (slicePick vs.toArray lo hi st).toList ys)
    (hs : ∀ o i, ∃ ops, subscripted (.Slice lower upper step p) false (.ref o) (.ref i) = operate ops (getItem (.ref o) (.ref i)) := by intro _ _; exact ⟨_, by with_unfolding_all rfl⟩) :
    Ev prog w Z0 k env ρ (.Subscript value (.Slice lower upper step p) pos) (.list ys) := fun S Z s A E r pr => by
  refine Subscript_ (wpAny_mono (hv S Z s A E r pr) (fun o s₁ q => ?_) fun _ _ x => x)
  obtain ⟨Z₁, e₁, r₁⟩ := q
  have p₁ := pr.ext e₁
  refine wpAny_Slice (wpAny_mono (h1.ev r p₁) (fun vl s₂ q => ?_) fun _ _ x => x)
  obtain ⟨pl, Z₂, e₂⟩ := q
  have p₂ := p₁.ext e₂
  refine wpAny_mono (h2.ev r p₂) (fun vu s₃ q => ?_) fun _ _ x => x
  obtain ⟨pu, Z₃, e₃⟩ := q
  have p₃ := p₂.ext e₃
  refine wpAny_mono (h3.ev r p₃) (fun vs' s₄ q => ?_) fun _ _ x => x
  obtain ⟨ps, Z₄, e₄⟩ := q
  have p₄ := p₃.ext e₄
  obtain ⟨l, vs, rfl, hl, r2⟩ := (r₁.mono (e₂.le.trans (e₃.le.trans e₄.le))).isList p₄.fin
  have := r2.length
  refine tail_any (hl.push _).typeIs slot_list_getitem.lookup (wpAny_getItem_list_slice (hl.push _) (Heap.IsSliceOf.new ..) pl pu ps h0 ?_ (by rw [List.size_toArray, sizeLine_eq]; (first | exact ar63 hz this | (first | lia | omega)))) (hs _ _).choose_spec
  have e₅ : Ext s₄ Z₄ { s₄ with heap := s₄.heap.push { cls := .type "slice", data := .fields #[vl, vu, vs'] } } Z₄ := Ext.keeps (t := s₄.toks) p₄.fin fun _ _ e => Heap.get?_push_of_some _ e
  have e₆ := Ext.push (s := { s₄ with heap := s₄.heap.push { cls := .type "slice", data := .fields #[vl, vu, vs'] } }) (Z := Z₄) (o := { cls := .type "list", data := .seq (slicePick vs.toArray lo hi st) }) e₅.fin (Tb.ty rfl) rfl s₄.toks
  exact ⟨_, ((((e₁.trans e₂).trans e₃).trans e₄).trans e₅).trans e₆, .list (vs := (slicePick vs.toArray lo hi st).toList) (n := 0) (Fz.add_self ..) rfl rfl (by simp) ((hp Z₄ vs r2).mono e₆.le)⟩
end Mq
set_option tactic.hygienic false
namespace Mq
open PySem PySem.Spec PySem.Calls PyProof.Rows PySem.W
theorem CloAt.fn {prog : Program} {w : World} {Z : Fz} {k : Nat} {mg mb : Str → Option Value} {g : Addr} {name q : Str} {params : Arguments} {body : List Stmt} {scope : Scope} {x : Str} {d dres : PV} {names : List Str} {ds : List PV} (h : CloAt Z g name q params body scope x d) (B : Base Z mg mb) (hlen : names.length = ds.length)
    (hbind : ∀ c T pm cc (vs : List Value), vs.length = ds.length → bindArgs (fdC name q params body scope [(x, c)] T pm (.ref cc)) ⟨vs, []⟩ = pure (names.zip vs)) (hnd : names.Nodup) (hcell : ∀ y ∈ scope.names, y.2 ≠ .cell) (hkind : ∀ y ∈ names, scope.names.lookup y = some .local) (hx : scope.names.lookup x = some .free)
    (hB : ∀ c T pm cc L, Bd prog w Z k (callEnv (fdC name q params body scope [(x, c)] T pm (.ref cc)) L g) (names.zip (ds.map .fz) ++ [(x, .fz d)]) body dres)
    (hco : scope.isCoroutine = false := by rfl) (hgen : scope.isGenerator = false := by rfl) (hk : scope.kind = .function := by rfl) : Fn prog w Z (k + 1) (.ref g) ds dres := by
  obtain ⟨T, pm, cc, co, vs, t, c, oc, v, h1, h2, h3, h4, h5, h6, h7, h8⟩ := h
  refine Fn.mkD [(x, .fz d)] B h1 rfl (fun h' hi => ⟨cc, co, vs, t, rfl, hi.get h2, h4, h5⟩) rfl hlen (fun s us hus _ => BindsTo.of_eq (hbind c T pm cc us hus)) hnd hcell hkind rfl rfl (fun y sl hy => ?_) (hB c T pm cc) hco hgen hk
  by_cases e : y = x
  · subst e
    simp at hy
    subst hy
    exact ⟨d, c, oc, v, rfl, hx, by simp [fdC], h6, h7, h8⟩
  · rw [lookup_cons_ne e] at hy; simp at hy
variable {w : World} {Z0 : Fz} {mg mb : Str → Option Value}
noncomputable def readStep (acc : List Int) (l : Int) : List Int := l :: (if l = 0 then [] else acc)
noncomputable def readOf (rs : List Rule) (R : List (List Int)) (s : Int) : List (List Int) := (letF rs rs.length s).reverse.foldl readStep (R.headD []) :: R
theorem readStep_len (acc : List Int) (l : Int) : (readStep acc l).length ≤ acc.length + 1 := by unfold readStep; split <;> simp
theorem readFold_len : ∀ (ls acc : List Int), (ls.foldl readStep acc).length ≤ acc.length + ls.length
  | [], acc => by simp
  | l :: ls, acc => by
    have := readFold_len ls (readStep acc l)
    have := readStep_len acc l
    simp only [List.foldl_cons, List.length_cons]; (first | exact ar23 (by assumption) this | (first | lia | omega))
theorem fn_ISEOF_ev (K : Kit w Z0 mg mb) {k : Nat} (hk : 1 ≤ k) {env : Env} {ρ : PEnv} {x : Str} {l : Int} {fp np cp : Pos} (hx : ρ.lookup x = some (.fz (.int l))) (hk2 : env.kindOf "ISEOF" = some .globalImplicit) (hd : (x == ("__debug__" : Str)) = false) (hn : (x == ("__classdict__" : Str)) = false)
    (h3 : ∀ pos, backTo pos (starEach [.Name x np] env) = (false, eval (.Name x np) env) :: backTo pos (starEach [] env)) (h4 : starEach [.Name x np] env = (false, eval (.Name x np) env) :: starEach [] env) : Tr prg w Z0 k env ρ (.Call (.Name "ISEOF" fp) [.Name x np] [] cp) (l == 0) :=
  Tr.val (Ev.callF (Ev.globV K.base (K.gl rfl) hk2) (Evs.cons (Ev.name hx hd hn) Evs.nil h4) (K.topT 44 _ rfl rfl) rfl ((fn_ISEOF K l).le hk) h3)
end Mq
set_option tactic.hygienic false
namespace Mq
open PySem PySem.Spec PySem.Calls PyProof.Rows PySem.W
variable {w : World} {Z0 : Fz} {mg mb : Str → Option Value}
theorem Base.mono {Z : Fz} (B : Base Z0 mg mb) (h : LeZ Z0 Z) : Base Z mg mb := ⟨fun h' hi => B.g h' (hi.of_le h), fun h' hi => B.b h' (hi.of_le h), fun h' hi => B.lim h' (hi.of_le h)⟩
theorem Kit.mono {Z : Fz} (K : Kit w Z0 mg mb) (h : LeZ Z0 Z) : Kit w Z mg mb := ⟨K.base.mono h, fun a o e c => h _ _ (K.top a o e c), K.glob, K.gnone, K.blt, let ⟨bm, ob, e1, e2, r⟩ := K.bm; ⟨bm, ob, e1, h _ _ e2, r⟩⟩
theorem Kit.bmod (K : Kit w Z0 mg mb) {h : Heap} (hi : InH Z0 h) {P : Addr} (hP : P = 16 ∨ P = 82 ∨ P = 89) : h.BuiltinsAt mg P := by
  obtain ⟨bm, ob, e1, e2, e3, e4, e5⟩ := K.bm
  have e := K.glob "__builtins__" _ rfl
  rw [e] at e1
  obtain rfl : _ = bm := by injection e1 with e1; injection e1
  refine ⟨_, ob, e, ?_, ?_, ?_, hi.get e2, e3, e4, e5⟩
  · decide
  · decide
  · rcases hP with rfl | rfl | rfl <;> decide
theorem Kit.isCode86 (K : Kit w Z0 mg mb) {h : Heap} (hi : InH Z0 h) (ht : h.get? 82 = some (X.tableObj #[])) : h.IsCode 86 82 #[] ∧ h.TableAt 86 82 #[] :=
  ⟨⟨_, _, _, _, _, _, _, _, _, _, hi.get (K.topT 86 _ rfl rfl), rfl, rfl, rfl, rfl, rfl, rfl, ht, rfl, trivial, by decide⟩, ⟨_, _, hi.get (K.topT 86 _ rfl rfl), rfl, rfl, rfl⟩, ht⟩
theorem Kit.isCode93 (K : Kit w Z0 mg mb) {h : Heap} (hi : InH Z0 h) (ht : h.get? 89 = some (X.tableObj #[])) : h.IsCode 93 89 #[] ∧ h.TableAt 93 89 #[] :=
  ⟨⟨_, _, _, _, _, _, _, _, _, _, hi.get (K.topT 93 _ rfl rfl), rfl, rfl, rfl, rfl, rfl, rfl, ht, rfl, trivial, by decide⟩, ⟨_, _, hi.get (K.topT 93 _ rfl rfl), rfl, rfl, rfl⟩, ht⟩
theorem code_reader (K : Kit w Z0 mg mb) (rs : List Rule) (hrs : RulesOk rs) (hlen : rs.length ≤ 8) {Z : Fz} {s : Shared} {A : Around} {v : Value} (r : Room A 50) (hle : LeZ Z0 Z) (hi : InH Z s.heap) (ht : s.heap.get? 82 = some (X.tableObj #[])) (hv : Rep Z v (pairsP rs)) :
    codeAny (model prg w) A (.call (.ref 87) ⟨[v], []⟩) (fun r s' => ∃ g Z' ps go fd, r = .ok (.ret (.ref g)) ∧ Mv [82] s Z s' Z' ∧ s'.heap.get? 82 = some (X.tableObj ps) ∧ Z' g = some go ∧ go.data = .func fd ∧
      ∀ (R : List (List Int)) (sym : Int), R.length ≤ 500 → (R.headD []).length ≤ 500 → sym < 256 + rs.length → Fn prg w Z' 31 (.ref g) [.list (pLists R), .int sym] (.list (pLists (readOf rs R sym)))) s := by
  have hc := K.isCode86 (hi.of_le hle) ht
  refine codeAny_mono (code_maker (q := (Str.ofString "_law_reader" ++ ".<locals>.") ++ Str.ofString "read") K.base r (by decide) hle hi (K.topT 87 _ rfl rfl) rfl rfl rfl rfl rfl rfl (fun L => rfl) rfl rfl rfl (K.codeT (c := 86) rfl rfl rfl rfl _ (hi.of_le hle)) hc.1 hc.2 (by decide) (K.bmod (hi.of_le hle) (.inr (.inl rfl))) (fun L => rfl) (fun L => rfl) rfl rfl rfl (fun L => rfl) rfl hv (by decide)) fun r' s' h => ?_
  obtain ⟨g, Z', ps, hr, mv, hps, clo⟩ := h
  obtain ⟨_, _, _, _, _, _, _, _, _, hg, _⟩ := id clo
  refine ⟨g, Z', ps, _, _, hr, mv, hps, hg, rfl, fun R sym hR hR0 hsym => ?_⟩
  have K' := K.mono (hle.trans mv.le)
  refine clo.fn (names := ["readings", "symbol"]) K'.base rfl (fun c T pm cc => bind2 fun a b => rfl) (by decide) (by decide) (by decide) rfl (fun c T pm cc L => ?_)
  have hll := letF_len rs rs.length sym
  have hl2 : 2 ^ rs.length ≤ 2 ^ 8 := Nat.pow_le_pow_right (by decide) hlen
  generalize hls : letF rs rs.length sym = ls at hll
  have hro : readOf rs R sym = ls.reverse.foldl readStep (R.headD []) :: R := by unfold readOf; rw [hls]
  have hpL : (pLists R).length = R.length := by simp [pLists]
  rw [hro]
  refine Bd.cons (X1.assign (d := .list (pInts (R.headD []))) (Ev.sub (a := .list (pLists (R ++ [[]]))) (b := .int 0) (Ev.binop (a := .list (pLists R)) (b := .list (pLists [[]])) (Ev.name rfl) (Ev.list (hz := by simp [pLists]) (Evs.cons (Ev.list (hz := by simp [pInts]) Evs.nil) Evs.nil)) fun Z v u _ h1 h2 => ?_) Ev.int fun Z v u _ h1 h2 => op_item_list h1 h2 (by decide) ?_ (by simp [pLists]; (first | exact ar143 hR | (first | lia | omega)))) (.inl rfl))
    (Bd.cons (X1.loop (.list (pInts ls.reverse)) (Ev.sliceT (xs := pInts ls) (lo := none) (hi := none) (st := some (-1)) (Ev.callF (d := .list (pInts ls)) (Ev.globV K'.base (K'.gl rfl)) (Evs.cons (Ev.name rfl) (Evs.cons (Ev.name rfl) Evs.nil)) (K'.topT 80 _ rfl rfl) rfl (hls ▸ (fn_letters K' rs hrs rs.length sym (Nat.le_refl _) (by (first | exact ar145 hlen | (first | lia | omega))) hsym).le (by (first | exact ar146 hlen | (first | lia | omega))))) PartEv.no PartEv.no (PartEv.so Ev.neg1) (by decide) (by simp [pInts]; (first | exact ar144 hl2 hll | (first | lia | omega))) fun Z vs rr => ?_)
      (fun i => [("reading", .fz (.list (pInts ((ls.reverse.take i).foldl readStep (R.headD []))))), ("readings", .fz (.list (pLists R)))]) (Sub.cons rfl (Sub.cons rfl Sub.nil)) ?_) ?_)
  · have := op_cat (prog := prg) (w := w) (Z0 := Z') (k := 30) h1 h2 (by simp [pLists]; (first | exact ar143 hR | (first | lia | omega)))
    rw [show pLists (R ++ [[]]) = pLists R ++ pLists [[]] by simp [pLists]]
    exact this
  · cases R <;> rfl
  · have := pick_rev rr
    rw [show pInts ls.reverse = (pInts ls).reverse by simp [pInts]]
    exact this
  · intro i x hx
    obtain ⟨l, hl, rfl⟩ : ∃ l, ls.reverse[i]? = some l ∧ PV.int l = x := by
      rw [show pInts ls.reverse = ls.reverse.map PV.int from rfl, List.getElem?_map] at hx
      simpa using hx
    have hil : i < ls.length := by have := (List.getElem?_eq_some_iff.mp hl).1; simpa using this
    have hst : (ls.reverse.take (i + 1)).foldl readStep (R.headD []) = readStep ((ls.reverse.take i).foldl readStep (R.headD [])) l := by
      rw [List.take_add_one, hl, List.foldl_append]; rfl
    have hlen2 := readFold_len (ls.reverse.take i) (R.headD [])
    rw [hst]
    generalize (ls.reverse.take i).foldl readStep (R.headD []) = acc at hlen2
    have hal : acc.length ≤ 1000 := by rw [List.length_take, List.length_reverse] at hlen2; (first | exact ar147 hR0 hl2 hll hlen2 | (first | lia | omega))
    refine ⟨_, Tg.name (.inl rfl), Ex.cons (X1.assign (d := .list (pInts (readStep acc l))) (Ev.binop (a := .list (pInts [l])) (b := .list (pInts (if l = 0 then [] else acc))) (Ev.list (hz := by simp [pInts]) (Evs.cons (Ev.name rfl) Evs.nil)) (Ev.ifexp (c := l == 0) (fn_ISEOF_ev K' (by decide) rfl rfl (by decide) (by decide) (by intro _; rfl) rfl) (fun h => ?_) (fun h => ?_)) fun Z v u _ h1 h2 => ?_) (.inl rfl)) (Ex.nil (Sub.cons rfl (Sub.cons rfl Sub.nil)))⟩
    · rw [if_pos (by simpa using h)]; exact Ev.list (hz := by simp [pInts]) Evs.nil
    · rw [if_neg (by simpa using h)]; exact Ev.name rfl
    · have := op_cat (prog := prg) (w := w) (Z0 := Z') (k := 30) h1 h2 (by split <;> simp [pInts] <;> (first | exact ar148 hal | (first | lia | omega)))
      rw [show pInts (readStep acc l) = pInts [l] ++ pInts (if l = 0 then [] else acc) by simp [pInts, readStep]]
      exact this
  · have hlr : (pInts ls.reverse).length = ls.reverse.length := by simp [pInts]
    rw [hlr, List.take_length]
    refine Bd.ret (Ev.binop (a := .list (pLists [ls.reverse.foldl readStep (R.headD [])])) (b := .list (pLists R)) (Ev.list (hz := by simp [pLists]) (Evs.cons (Ev.name rfl) Evs.nil)) (Ev.name rfl) fun Z v u _ h1 h2 => ?_)
    have := op_cat (prog := prg) (w := w) (Z0 := Z') (k := 30) h1 h2 (by simp [pLists]; (first | exact ar149 hR | (first | lia | omega)))
    exact this
end Mq
set_option tactic.hygienic false
namespace Mq
open PySem PySem.Spec PySem.Calls PyProof.Rows PySem.W
section
variable {prog : Program} {w : World} {Z0 : Fz} {k : Nat} {Z : Fz} {v u : Value}
noncomputable def b01 (b : Bool) : Int := if b then 1 else 0
theorem op_sub_bool {a b : Bool} (h1 : Rep Z v (.bool a)) (h2 : Rep Z u (.bool b)) : Op prog w Z0 k Z (binaryOp .Sub v u) (.int (b01 a - b01 b)) := fun s A E r hi => by
  cases h1.isBool; cases h2.isBool
  exact PyProof.Rows.sub_bool ⟨Z, .toks hi, .int _ _⟩
theorem Ev.orInt {env : Env} {ρ : PEnv} {x y : Expr} {pos : Pos} {a b : Int} (hx : Ev prog w Z0 k env ρ x (.int a)) (hy : a = 0 → Ev prog w Z0 k env ρ y (.int b)) : Ev prog w Z0 k env ρ (.BoolOp .Or [x, y] pos) (.int (if a = 0 then b else a)) := fun S Z s A E r p => by
  refine BoolOp_or (wpAny_mono (hx S Z s A E r p) (fun v s₁ q => ?_) fun _ _ x => x)
  obtain ⟨Z₁, e₁, r₁⟩ := q
  obtain ⟨t, rfl⟩ := r₁.isInt
  refine PyProof.Rows.truthy_int ?_
  by_cases h : a = 0
  · rw [if_pos h]
    simp only [h, bne_self_eq_false, Bool.false_eq_true, if_false]
    exact BoolOp_one (wpAny_mono (hy h S Z₁ s₁ A E r (p.ext e₁)) (fun _ _ q => q.ext e₁) fun _ _ x => x)
  · rw [if_neg h]
    have : (a != 0) = true := by simpa using h
    simp only [this, if_true]
    exact ⟨Z₁, e₁, .int _ _⟩
end
variable {w : World} {Z0 : Fz} {mg mb : Str → Option Value}
noncomputable def cmpOf (l r : List Int) : Int := if l.headD 0 - r.headD 0 = 0 then b01 (lexI .Gt l r) - b01 (lexI .Lt l r) else l.headD 0 - r.headD 0
theorem code_comparing (K : Kit w Z0 mg mb) (RR : List (List Int)) (hlen : RR.length ≤ 500) (hne : ∀ l ∈ RR, l ≠ []) (hl5 : ∀ l ∈ RR, l.length ≤ 1000) {Z : Fz} {s : Shared} {A : Around} {v : Value} (r : Room A 50) (hle : LeZ Z0 Z) (hi : InH Z s.heap) (ht : s.heap.get? 89 = some (X.tableObj #[])) (hv : Rep Z v (.list (pLists RR))) :
    codeAny (model prg w) A (.call (.ref 94) ⟨[v], []⟩) (fun r s' => ∃ g Z' ps go fd, r = .ok (.ret (.ref g)) ∧ Mv [89] s Z s' Z' ∧ s'.heap.get? 89 = some (X.tableObj ps) ∧ Z' g = some go ∧ go.data = .func fd ∧
      ∀ (i j : Nat) l m, RR[i]? = some l → RR[j]? = some m → Fn prg w Z' 21 (.ref g) [.int (i : Int), .int (j : Int)] (.int (cmpOf l m))) s := by
  have hc := K.isCode93 (hi.of_le hle) ht
  refine codeAny_mono (code_maker (q := (Str.ofString "_law_comparing" ++ ".<locals>.") ++ Str.ofString "compare") K.base r (by decide) hle hi (K.topT 94 _ rfl rfl) rfl rfl rfl rfl rfl rfl (fun L => rfl) rfl rfl rfl (K.codeT (c := 93) rfl rfl rfl rfl _ (hi.of_le hle)) hc.1 hc.2 (by decide) (K.bmod (hi.of_le hle) (.inr (.inr rfl))) (fun L => rfl) (fun L => rfl) rfl rfl rfl (fun L => rfl) rfl hv (by decide)) fun r' s' h => ?_
  obtain ⟨g, Z', ps, hr, mv, hps, clo⟩ := h
  obtain ⟨_, _, _, _, _, _, _, _, _, hg, _⟩ := id clo
  refine ⟨g, Z', ps, _, _, hr, mv, hps, hg, rfl, fun i j l m hl hm => ?_⟩
  have K' := K.mono (hle.trans mv.le)
  refine clo.fn (names := ["one", "other"]) K'.base rfl (fun c T pm cc => bind2 fun a b => rfl) (by decide) (by decide) (by decide) rfl (fun c T pm cc L => ?_)
  have hpl : (pLists RR).length = RR.length := by simp [pLists]
  have at_ : ∀ {i : Nat} {l : List Int}, RR[i]? = some l → (pLists RR)[(i : Int).toNat]? = some (.list (pInts l)) := fun {i l} h => by rw [Int.toNat_natCast]; simp [pLists, h]
  have hd_ : ∀ {l : List Int}, l ∈ RR → (pInts l)[(0 : Int).toNat]? = some (.int (l.headD 0)) := fun {l} h => by
    cases l with
    | nil => exact absurd rfl (hne _ h)
    | cons a l => rfl
  have ml := List.mem_of_getElem? hl
  have mm := List.mem_of_getElem? hm
  have l1 := hl5 _ ml
  have l2 := hl5 _ mm
  refine Bd.cons (X1.assign (d := .list (pInts l)) (Ev.sub (a := .list (pLists RR)) (b := .int (i : Int)) (Ev.name rfl) (Ev.name rfl) fun Z v u _ h1 h2 => op_item_list h1 h2 (by (first | exact ar24 | (first | lia | omega))) (at_ hl) (by (first | exact ar25 hlen hpl | (first | lia | omega)))) (.inl rfl))
    (Bd.cons (X1.assign (d := .list (pInts m)) (Ev.sub (a := .list (pLists RR)) (b := .int (j : Int)) (Ev.name rfl) (Ev.name rfl) fun Z v u _ h1 h2 => op_item_list h1 h2 (by (first | exact ar24 | (first | lia | omega))) (at_ hm) (by (first | exact ar25 hlen hpl | (first | lia | omega)))) (.inl rfl)) (Bd.ret ?_))
  exact Ev.orInt (a := l.headD 0 - m.headD 0) (b := b01 (lexI .Gt l m) - b01 (lexI .Lt l m))
    (Ev.binop (a := .int (l.headD 0)) (b := .int (m.headD 0)) (Ev.sub (a := .list (pInts l)) (b := .int 0) (Ev.name rfl) Ev.int fun Z v u _ h1 h2 => op_item_list h1 h2 (by decide) (hd_ ml) (by simp [pInts]; (first | exact ar26 l1 | (first | lia | omega)))) (Ev.sub (a := .list (pInts m)) (b := .int 0) (Ev.name rfl) Ev.int fun Z v u _ h1 h2 => op_item_list h1 h2 (by decide) (hd_ mm) (by simp [pInts]; (first | exact ar26 l2 | (first | lia | omega)))) fun Z v u _ h1 h2 => op_sub h1 h2)
    fun _ => Ev.binop (a := .bool (lexI .Gt l m)) (b := .bool (lexI .Lt l m)) (Ev.cmp (Ev.name rfl) (Ev.name rfl) fun Z v u _ h1 h2 => op_cmp_ints .Gt (by simp) h1 h2 (by decide)) (Ev.cmp (Ev.name rfl) (Ev.name rfl) fun Z v u _ h1 h2 => op_cmp_ints .Lt (by simp) h1 h2 (by decide)) fun Z v u _ h1 h2 => op_sub_bool h1 h2
end Mq
set_option tactic.hygienic false
namespace Mq
open PySem PySem.Spec PySem.Calls PyProof.Rows PySem.W PySem.W.X
variable {prog : Program} {w : World}
theorem wpAny_le {α : Type} {M : Model} {A B : Around} {t : Sem α} {Q : α → Shared → Prop} {E : Value → Shared → Prop} {s : Shared} (h1 : A.handled = B.handled) (h2 : A.depth ≤ B.depth) (h3 : B.frames = none) (h4 : B.guards = none) (h5 : A.units ≤ B.units) (h : wpAny M B t Q E s) : wpAny M A t Q E s :=
  fun Γ p hΓ => h Γ p ⟨hΓ.1.trans h1, Nat.le_trans hΓ.2.1 h2, fun l hl => (by rw [h3] at hl; cases hl), fun g hg => (by rw [h4] at hg; cases hg), Nat.le_trans hΓ.2.2.2.2 h5⟩
noncomputable def A0 : Around := { handled := none, depth := 880, frames := none, guards := none, units := 8950 }
/-- what a run leaves -/
inductive XP (s : Shared) (P : Value → Heap → Prop) (v : Value) (s' : Shared) : Prop
  | mk (h' : Heap) (tk : Nat) (_ : s' = { s with heap := h', toks := tk }) (_ : ∀ b o, s.heap.get? b = some o → h'.get? b = some o) (_ : P v h') : XP s P v s'
theorem mem_keeps {h h' : Heap} {news : List (Addr × Obj)} (D : Mem h h' [] news) : ∀ b o, h.get? b = some o → h'.get? b = some o := fun b o e => D.old b o e (by simp [away])
structure Le0 (A : Around) : Prop where
  handled : A.handled = none
  depth : A.depth ≤ 880
  units : A.units ≤ 8950
theorem Room.le0 {A : Around} {k : Nat} (r : Room A k) (hk : 120 ≤ k) : Le0 A := ⟨r.handled, by have := r.depth; have e : recursionLimit = 1000 := rfl; (first | exact ar51 hk this e | (first | lia | omega)), by have := r.units; have e : cLine = 9900 := rfl; (first | exact ar52 hk this e | (first | lia | omega))⟩
theorem Le0.go {A : Around} (r : Le0 A) {α : Type} {M : Model} {t : Sem α} {Q : α → Shared → Prop} {E : Value → Shared → Prop} {s : Shared} (h : wpAny M A0 t Q (fun _ _ => False) s) : wpAny M A t Q E s :=
  wpAny_mono (wpAny_le (r.handled.trans rfl) r.depth rfl rfl r.units h) (fun _ _ q => q) fun _ _ q => q.elim
theorem q_eq {α : Type} {Q : α → Shared → Prop} {a b : α} {s : Shared} (h : Q b s) (e : a = b) : Q a s := e ▸ h
namespace KF
theorem sub_tuple : isSubtype (.type "tuple") (.type "tuple") = pure true := by kernel_rfl!
theorem sub_dict : isSubtype (.type "dict") (.type "dict") = pure true := by kernel_rfl!
theorem sub_type : isSubtype (.type "type") (.type "type") = pure true := by kernel_rfl!
theorem sub_list_str : isSubtype (.type "list") (.type "str") = pure false := by kernel_rfl!
theorem ext_object : Builtin.extendedBase [.type "object"] = pure (.type "object") := by kernel_rfl!
theorem best_object : Builtin.Slots.bestBase [.type "object"] = pure (.type "object") := by kernel_rfl!
theorem iter_dict : typeLookup (.type "dict") "__iter__" = pure (some (.builtin "dict.__iter__")) := by kernel_rfl!
theorem names_object : Builtin.Slots.slotNamesOf (.type "object") = pure [] := by kernel_rfl!
theorem dict_object : Builtin.Slots.givesDict (.type "object") = pure false := by kernel_rfl!
theorem weak_object : Builtin.Slots.givesWeak (.type "object") = pure false := by kernel_rfl!
theorem var_object : Builtin.Slots.varSize (.type "object") = pure false := by kernel_rfl!
theorem hook_type : Builtin.mroHook? (.type "type") = pure none := by kernel_rfl!
theorem lin_object : Builtin.linearize [.type "object"] mroOf = pure [.type "object"] := by kernel_rfl!
theorem made_object : Bind.madeBy (.type "object") = pure (some "object.__new__") := by kernel_rfl!
theorem note_object (a : Addr) : Builtin.noteSubclassOfBuiltin "object" a = pure () := by kernel_rfl!
theorem turned_object : Builtin.notOverATurnedClass [.type "object"] = pure () := by kernel_rfl!
theorem set_str : typeLookup (.type "str") "__set_name__" = pure none := by kernel_rfl!
theorem set_int : typeLookup (.type "int") "__set_name__" = pure none := by kernel_rfl!
theorem set_list : typeLookup (.type "list") "__set_name__" = pure none := by kernel_rfl!
theorem set_tuple : typeLookup (.type "tuple") "__set_name__" = pure none := by kernel_rfl!
theorem set_none : typeLookup (.type "NoneType") "__set_name__" = pure none := by kernel_rfl!
theorem set_function : typeLookup (.type "function") "__set_name__" = pure none := by kernel_rfl!
theorem set_member : typeLookup (.type "member_descriptor") "__set_name__" = pure none := by kernel_rfl!
theorem type_object : typeOf (.type "object") = pure (.type "type") := by kernel_rfl!
end KF
local macro_rules | `(tactic| x_close) => `(tactic| exact ⟨_, _, rfl, mem_keeps (by assumption), _, _, rfl, Mem.at (by assumption) 0 _ _ rfl⟩)
theorem collect_slots {s : Shared} {SL : Addr} {ts : Tok} {n : Nat} (hSL : s.heap.get? SL = some { cls := .type "list", data := .seq #[.str "obj" ts] n }) :
    wpAny (model prog w) A0 (runValue (.builtin "proto.collect" ⟨[.ref SL], []⟩)) (XP s fun v h' => ∃ L m, v = .ref L ∧ h'.get? L = some { cls := .type "list", data := .seq #[.str "obj" ts] m }) (fun _ _ => False) s := by
  x_run
theorem slots_read {A : Around} (hA : Le0 A) {hp : Heap} {g : Array GenState} {d : Drawn} {t : Nat} {os : OsState} {SL : Addr} {ts : Tok} {n : Nat} {es : Array DictEntry} {Q : Builtin.Slots.Plan → Shared → Prop} {E : Value → Shared → Prop} {hs : Int} {tk : Tok}
  (hSL : hp.get? SL = some { cls := .type "list", data := .seq #[.str "obj" ts] n })
  (he : es.find? (·.key.isStr "__slots__") = some ⟨hs, .str "__slots__" tk, .ref SL⟩) (hn : es.any (·.key.isStr "obj") = false)
  (h : ∀ h' t', (∀ b o, hp.get? b = some o → h'.get? b = some o) → Q { names := ["obj"], dict := false, weak := false, inherited := [] } ⟨h', g, d, t', os⟩) :
  wpAny (model prog w) A (Builtin.Slots.read "K" [.type "object"] es) Q E ⟨hp, g, d, t, os⟩ := by
  unfold Builtin.Slots.read
  repeat (first | ((with_reducible first | refine wpAny_of_eq KF.sub_tuple ?_ | refine wpAny_of_eq KF.sub_dict ?_ | refine wpAny_of_eq KF.sub_type ?_ | refine wpAny_of_eq KF.sub_list_str ?_ | refine wpAny_of_eq KF.ext_object ?_ | refine wpAny_of_eq KF.best_object ?_ | refine wpAny_of_eq KF.names_object ?_ | refine wpAny_of_eq KF.dict_object ?_ | refine wpAny_of_eq KF.weak_object ?_ | refine wpAny_of_eq KF.var_object ?_ | refine wpAny_of_eq KF.hook_type ?_ | refine wpAny_of_eq KF.lin_object ?_ | refine wpAny_of_eq KF.type_object ?_ | refine wpAny_of_eq KF.made_object ?_ | refine wpAny_of_eq (KF.note_object _) ?_ | refine wpAny_of_eq KF.turned_object ?_)) | wp_step)
  rw [he]
  repeat (first | ((with_reducible first | refine wpAny_of_eq KF.sub_tuple ?_ | refine wpAny_of_eq KF.sub_dict ?_ | refine wpAny_of_eq KF.sub_type ?_ | refine wpAny_of_eq KF.sub_list_str ?_ | refine wpAny_of_eq KF.ext_object ?_ | refine wpAny_of_eq KF.best_object ?_ | refine wpAny_of_eq KF.names_object ?_ | refine wpAny_of_eq KF.dict_object ?_ | refine wpAny_of_eq KF.weak_object ?_ | refine wpAny_of_eq KF.var_object ?_ | refine wpAny_of_eq KF.hook_type ?_ | refine wpAny_of_eq KF.lin_object ?_ | refine wpAny_of_eq KF.type_object ?_ | refine wpAny_of_eq KF.made_object ?_ | refine wpAny_of_eq (KF.note_object _) ?_ | refine wpAny_of_eq KF.turned_object ?_)) | (with_reducible refine wpAny_loadPart hSL ?_) | ((fail_if_success (with_reducible show wpAny _ _ (collect _) _ _ _)); wp_step))
  unfold collect
  refine wpAny_bind (wpAny_mono (hA.go (collect_slots (s := ⟨hp, g, d, t, os⟩) hSL)) (fun v s' q => ?_) fun _ _ x => x)
  obtain ⟨h', t', rfl, hk, L, m, rfl, hL⟩ := q
  repeat (first | ((with_reducible first | refine wpAny_of_eq KF.sub_tuple ?_ | refine wpAny_of_eq KF.sub_dict ?_ | refine wpAny_of_eq KF.sub_type ?_ | refine wpAny_of_eq KF.sub_list_str ?_ | refine wpAny_of_eq KF.ext_object ?_ | refine wpAny_of_eq KF.best_object ?_ | refine wpAny_of_eq KF.names_object ?_ | refine wpAny_of_eq KF.dict_object ?_ | refine wpAny_of_eq KF.weak_object ?_ | refine wpAny_of_eq KF.var_object ?_ | refine wpAny_of_eq KF.hook_type ?_ | refine wpAny_of_eq KF.lin_object ?_ | refine wpAny_of_eq KF.type_object ?_ | refine wpAny_of_eq KF.made_object ?_ | refine wpAny_of_eq (KF.note_object _) ?_ | refine wpAny_of_eq KF.turned_object ?_)) | (with_reducible refine wpAny_loadPart hL ?_) | wp_step)
  rw [show Builtin.Slots.isIdentifier (Str.ofString "obj") = some true from by kernel_rfl!]
  have e1 : (Str.ofString "obj" == Str.ofString "__dict__") = false := by decide +kernel
  have e2 : (Str.ofString "obj" == Str.ofString "__weakref__") = false := by decide +kernel
  have e3 : Builtin.Slots.mangle (Str.ofString "K") (Str.ofString "obj") = Str.ofString "obj" := by kernel_rfl!
  repeat (first | ((with_reducible first | refine wpAny_of_eq KF.sub_tuple ?_ | refine wpAny_of_eq KF.sub_dict ?_ | refine wpAny_of_eq KF.sub_type ?_ | refine wpAny_of_eq KF.sub_list_str ?_ | refine wpAny_of_eq KF.ext_object ?_ | refine wpAny_of_eq KF.best_object ?_ | refine wpAny_of_eq KF.names_object ?_ | refine wpAny_of_eq KF.dict_object ?_ | refine wpAny_of_eq KF.weak_object ?_ | refine wpAny_of_eq KF.var_object ?_ | refine wpAny_of_eq KF.hook_type ?_ | refine wpAny_of_eq KF.lin_object ?_ | refine wpAny_of_eq KF.type_object ?_ | refine wpAny_of_eq KF.made_object ?_ | refine wpAny_of_eq (KF.note_object _) ?_ | refine wpAny_of_eq KF.turned_object ?_)) | (with_reducible refine wpAny_loadPart hL ?_) | wp_step)
  refine q_eq (h h' t' hk) ?_
  kernel_rfl!
end Mq
set_option tactic.hygienic false
namespace Mq
open PySem PySem.Spec PySem.Calls PyProof.Rows PySem.W PySem.W.X
section
variable {M : Model} {A : Around} {E : Value → Shared → Prop} {hp : Fz} {h : Heap} {g : Array GenState} {d : Drawn} {t : Nat} {os : OsState} {ns a : Addr} {on o : Obj}
/-- the class that is being made, its names, and all that stood before -/
structure TS (hp : Fz) (h : Heap) (ns a : Addr) (on o : Obj) : Prop where
  keep : ∀ b x, hp b = some x → h.get? b = some x
  nsAt : h.get? ns = some on
  cls : h.get? a = some o
  ne : ns ≠ a
  fns : hp ns = none
  fa : hp a = none
theorem TS.onNs {f : Obj → Obj} (T : TS hp h ns a on o) (hf : (f on).isFreed = false) : TS hp (h.update ns f) ns a (f on) o :=
  ⟨fun b x e => (Heap.SameBut.update h ns f).2 b (by rintro rfl; rw [T.fns] at e; cases e) ▸ T.keep b x e, Heap.get?_update_self f T.nsAt hf, (Heap.SameBut.update h ns f).2 a (Ne.symm T.ne) ▸ T.cls, T.ne, T.fns, T.fa⟩
theorem TS.onCls {f : Obj → Obj} (T : TS hp h ns a on o) (hf : (f o).isFreed = false) : TS hp (h.update a f) ns a on (f o) :=
  ⟨fun b x e => (Heap.SameBut.update h a f).2 b (by rintro rfl; rw [T.fa] at e; cases e) ▸ T.keep b x e, (Heap.SameBut.update h a f).2 ns T.ne ▸ T.nsAt, Heap.get?_update_self f T.cls hf, T.ne, T.fns, T.fa⟩
theorem TS.push (T : TS hp h ns a on o) (x : Obj) : TS hp (h.push x) ns a on o :=
  ⟨fun b y e => Heap.get?_push_of_some _ (T.keep b y e), Heap.get?_push_of_some _ T.nsAt, Heap.get?_push_of_some _ T.cls, T.ne, T.fns, T.fa⟩
theorem ts_nsGet {name : Str} {v : Option Value} {Q : Option Value → Shared → Prop} (T : TS hp h ns a on o) (hv : nsLook name on = pure v) (hQ : Q v ⟨h, g, d, t, os⟩) : wpAny M A (nsGet ns name) Q E ⟨h, g, d, t, os⟩ := by
  unfold nsGet
  refine wpAny_bind (wpAny_loadPart T.nsAt ?_)
  rw [hv]; exact wpAny_pure hQ
theorem ts_nsDel {name : Str} {Q : Bool → Shared → Prop} (T : TS hp h ns a on o) (hv : nsHas name on = pure true) (hf : (Obj.dropName name on).isFreed = false) (hQ : ∀ h', TS hp h' ns a (Obj.dropName name on) o → Q true ⟨h', g, d, t, os⟩) : wpAny M A (nsDel ns name) Q E ⟨h, g, d, t, os⟩ := by
  unfold nsDel
  refine wpAny_bind (wpAny_loadPart T.nsAt ?_)
  rw [hv]
  refine wpAny_bind (wpAny_pure ?_)
  exact wpAny_bind (wpAny_updatePart T.nsAt (wpAny_pure (hQ _ (T.onNs hf))))
theorem ts_nsSet {name : Str} {v : Value} {es : Array DictEntry} {ep : Nat} {Q : Unit → Shared → Prop} (T : TS hp h ns a on o) (hd : on.data = .dict es ep) (hr : aRefKeyMayBeTheName name es = false) (hf : ∀ i k, (Obj.putName name i k v on).isFreed = false)
    (hQ : ∀ h' i k t', TS hp h' ns a (Obj.putName name i (.str name k) v on) o → Q () ⟨h', g, d, t', os⟩) : wpAny M A (nsSet ns name v) Q E ⟨h, g, d, t, os⟩ := by
  unfold nsSet strHash
  refine wpAny_bind (wpAny_bind (wpAny_askSetting (wpAny_pure ?_)))
  refine wpAny_bind (wpAny_mkText ?_)
  refine wpAny_bind (wpAny_loadPart T.nsAt ?_)
  rw [hd]
  simp only [hr, Bool.false_eq_true, if_false]
  exact wpAny_updatePart T.nsAt (hQ _ _ _ _ (T.onNs (hf _ _)))
theorem ts_nsSetV {name : Str} {v : Value} {es : Array DictEntry} {ep : Nat} {Q : Unit → Shared → Prop} (T : TS hp h ns a on o) (hd : on.data = .dict es ep) (hz : es.size ≤ 1000) (hr : aRefKeyMayBeTheName name es = false) (hf : ∀ i k, (Obj.putName name i k v on).isFreed = false)
    (hQ : ∀ h' i k t', TS hp h' ns a (Obj.putName name i (.str name k) v on) o → Q () ⟨h', g, d, t', os⟩) : wpAny M A (nsSetByValue ns name v) Q E ⟨h, g, d, t, os⟩ := by
  unfold nsSetByValue
  refine wpAny_bind (wpAny_loadPart T.nsAt ?_)
  rw [hd]
  have : decide (es.size > sizeLine) = false := decide_eq_false (by rw [sizeLine_eq]; (first | exact ar53 hz | (first | lia | omega)))
  simp only [this, Bool.false_and, Bool.false_eq_true, if_false]
  exact ts_nsSet T hd hr hf hQ
theorem ts_setSlot {i : Nat} {v : Option Value} {Q : Unit → Shared → Prop} (T : TS hp h ns a on o) (hi : i ≤ 100) (hf : ({ o with slots := (o.slots ++ Array.replicate (i + 1 - o.slots.size) none).setIfInBounds i v } : Obj).isFreed = false)
    (hQ : ∀ h', TS hp h' ns a on { o with slots := (o.slots ++ Array.replicate (i + 1 - o.slots.size) none).setIfInBounds i v } → Q () ⟨h', g, d, t, os⟩) : wpAny M A (setSlotAt a i v) Q E ⟨h, g, d, t, os⟩ := by
  unfold setSlotAt
  rw [if_neg (show ¬ (i ≥ sizeLine) by rw [sizeLine_eq]; (first | exact ar54 hi | (first | lia | omega)))]
  exact wpAny_updatePart T.cls (hQ _ (T.onCls (f := fun o => { o with slots := (o.slots ++ Array.replicate (i + 1 - o.slots.size) none).setIfInBounds i v }) hf))
theorem ts_slotAt {i : Nat} {v : Option Value} {Q : Option Value → Shared → Prop} (T : TS hp h ns a on o) (hv : (o.slots[i]?).join = v) (hQ : Q v ⟨h, g, d, t, os⟩) : wpAny M A (slotAt a i) Q E ⟨h, g, d, t, os⟩ := by
  unfold slotAt
  refine wpAny_bind (wpAny_loadPart T.cls (wpAny_pure ?_))
  rw [hv]; exact hQ
theorem ts_updateCls {f : ClassData → ClassData} {c : ClassData} {Q : Unit → Shared → Prop} (T : TS hp h ns a on o) (hd : o.data = .cls c) (hf : (Obj.mapCls f o).isFreed = false) (hp' : (Obj.mapCls f o).data.pastItsLine = none)
    (hQ : ∀ h', TS hp h' ns a on (Obj.mapCls f o) → Q () ⟨h', g, d, t, os⟩) : wpAny M A (updateCls a f) Q E ⟨h, g, d, t, os⟩ := by
  unfold updateCls
  refine wpAny_bind (wpAny_load T.cls ?_)
  rw [hd]
  refine wpAny_bind (wpAny_update T.cls ?_)
  have T' := T.onCls (f := Obj.mapCls f) hf
  exact wpAny_lookBehind T'.cls hp' (hQ _ T')
theorem ns_get {name : Str} {v : Option Value} {Q : Option Value → Shared → Prop} (e : h.get? ns = some on) (hv : nsLook name on = pure v) (hQ : Q v ⟨h, g, d, t, os⟩) : wpAny M A (nsGet ns name) Q E ⟨h, g, d, t, os⟩ := by
  unfold nsGet
  refine wpAny_bind (wpAny_loadPart e ?_)
  rw [hv]; exact wpAny_pure hQ
theorem TS.pushAdd (T : TS hp h ns a on o) (x : Obj) (hf : x.isFreed = false) : TS (Fz.add hp h.objs.size x) (h.push x) ns a on o := by
  have n1 : ns ≠ h.objs.size := fun q => by have := T.nsAt; rw [q, get?_size] at this; cases this
  have n2 : a ≠ h.objs.size := fun q => by have := T.cls; rw [q, get?_size] at this; cases this
  refine ⟨fun b y e => ?_, Heap.get?_push_of_some _ T.nsAt, Heap.get?_push_of_some _ T.cls, T.ne, by simp [Fz.add, n1, T.fns], by simp [Fz.add, n2, T.fa]⟩
  rcases Fz.add_cases e with ⟨rfl, rfl⟩ | e
  · exact Heap.get?_push_size _ hf
  · exact Heap.get?_push_of_some _ (T.keep b y e)
theorem TS.conv {on' o' : Obj} (T : TS hp h ns a on o) (e1 : on = on') (e2 : o = o') : TS hp h ns a on' o' := by subst e1 e2; exact T
theorem ts_updateClsE {ty : Value} {dd : Option Addr} {sl : Array (Option Value)} {f : ClassData → ClassData} {c : ClassData} {Q : Unit → Shared → Prop} (T : TS hp h ns a on ⟨ty, dd, .cls c, sl⟩) (hp' : (Data.cls (f c)).pastItsLine = none)
    (hQ : ∀ h', TS hp h' ns a on ⟨ty, dd, .cls (f c), sl⟩ → Q () ⟨h', g, d, t, os⟩) : wpAny M A (updateCls a f) Q E ⟨h, g, d, t, os⟩ := by
  unfold updateCls
  refine wpAny_bind (wpAny_load T.cls ?_)
  refine wpAny_bind (wpAny_update T.cls ?_)
  have T' := T.onCls (f := Obj.mapCls f) rfl
  exact wpAny_lookBehind T'.cls hp' (hQ _ T')
theorem ts_lookup {name : Str} {c : ClassData} {v y : Option Value} {Q : Option Value → Shared → Prop} (T : TS hp h ns a on o) (hd : o.data = .cls c) (hm : c.mro = [.ref a, .type "object"]) (hc : c.ns = ns) (hv : nsLook name on = pure v) (hy : typeLookup (.type "object") name = pure y)
    (hQ : Q (match v with | some x => some x | none => y) ⟨h, g, d, t, os⟩) : wpAny M A (typeLookup (.ref a) name) Q E ⟨h, g, d, t, os⟩ := by
  have hbm : mroOf (.type "object") = pure [.type "object"] := by kernel_rfl!
  have hrest : lookupAlong [.type "object"] name = pure y := by rw [typeLookup_eq, hbm] at hy; exact hy
  rw [typeLookup_eq]
  unfold mroOf classData
  refine wpAny_bind (wpAny_bind (wpAny_bind (wpAny_load T.cls ?_)))
  rw [hd]
  refine wpAny_pure (wpAny_pure ?_)
  rw [hm, lookupAlong_cons]
  unfold classOwn classData
  refine wpAny_bind (wpAny_bind (wpAny_bind (wpAny_load T.cls ?_)))
  rw [hd]
  refine wpAny_pure ?_
  rw [hc]
  refine ts_nsGet T hv ?_
  cases v with
  | some x => exact wpAny_pure hQ
  | none => exact wpAny_of_eq hrest hQ
theorem wpAny_forIn_same {α β : Type} {xs : Array α} {b : β} {f : α → β → Sem (ForInStep β)} {Q : β → Shared → Prop} {s : Shared} (hf : ∀ x ∈ xs.toList, wpAny M A (f x b) (fun r s' => r = .yield b ∧ s' = s) E s) (h : Q b s) : wpAny M A (forIn xs b f) Q E s := by
  rw [← Array.forIn_toList]
  generalize xs.toList = l at hf
  induction l with
  | nil => exact (wpAny_pure h : wpAny M A (pure b) Q E s)
  | cons x l ih =>
    rw [List.forIn_cons]
    refine wpAny_bind (wpAny_mono (hf x (by simp)) (fun r s' q => ?_) fun _ _ e => e)
    obtain ⟨rfl, rfl⟩ := q
    exact ih fun y hy => hf y (by simp [hy])
/-- a name's value that asks for no name -/
noncomputable def Mute (h : Heap) (e : DictEntry) : Prop := ∃ n t T, e.key = .str n t ∧ Builtin.laidUnderItsOwnName e.key e.val = false ∧ typeLookup (.type T) "__set_name__" = pure none ∧ ∀ s : Shared, s.heap = h → s.TypeIs e.val T
theorem Mute.str {h : Heap} {i : Int} {n x : Str} {t u : Tok} : Mute h ⟨i, .str n t, .str x u⟩ := ⟨n, t, "str", rfl, rfl, KF.set_str, fun _ _ => rfl⟩
theorem Mute.int {h : Heap} {i : Int} {n : Str} {t u : Tok} {k : Int} : Mute h ⟨i, .str n t, .int k u⟩ := ⟨n, t, "int", rfl, rfl, KF.set_int, fun _ _ => rfl⟩
theorem Mute.none {h : Heap} {i : Int} {n : Str} {t : Tok} : Mute h ⟨i, .str n t, .none⟩ := ⟨n, t, "NoneType", rfl, rfl, KF.set_none, fun _ _ => rfl⟩
theorem Mute.ref {h : Heap} {i : Int} {n : Str} {t : Tok} {r : Addr} {T : String} (hl : typeLookup (.type T) "__set_name__" = pure Option.none) (hr : ∃ o, h.get? r = some o ∧ o.cls = .type T) : Mute h ⟨i, .str n t, .ref r⟩ :=
  ⟨n, t, T, rfl, rfl, hl, fun s e => by obtain ⟨o, h1, h2⟩ := hr; exact ⟨o, by rw [e]; exact h1, h2⟩⟩
theorem fresh_size (h : Heap) : h.get? h.objs.size = none := get?_size h
end
end Mq
set_option tactic.hygienic false
namespace Mq
open PySem PySem.Spec PySem.Calls PyProof.Rows PySem.W PySem.W.X
variable {prog : Program} {w : World}
local macro_rules | `(tactic| x_close) => `(tactic| exact ⟨_, _, rfl, mem_keeps (by assumption), _, rfl, Mem.at (by assumption) 0 _ _ rfl⟩)
theorem call_super {s : Shared} {ns B a : Addr} {t3 tq : Tok} (hC : s.heap.get? a = some ⟨Value.type "type", none, Data.cls { name := "K", bases := [.type "object"], mro := [.ref a, .type "object"], ns := ns, qualname := "cmp_to_key.<locals>.K", hasDict := false, slotNames := ["obj"] }, #[some (.ref B), none, some (.str "K" t3), some (.str "cmp_to_key.<locals>.K" tq), some (.builtin "object.__new__"), some (.bool false)]⟩) :
    wpAny (model prog w) A0 (call (.type "super") [.ref a, .ref a]) (XP s fun v h' => ∃ u, v = .ref u ∧ h'.get? u = some { cls := .type "super", data := .fields #[.ref a, .ref a, .ref a] }) (fun _ _ => False) s := by
  x_run
theorem call_get {s : Shared} {ns B a : Addr} {t3 tq : Tok} (hC : s.heap.get? a = some ⟨Value.type "type", none, Data.cls { name := "K", bases := [.type "object"], mro := [.ref a, .type "object"], ns := ns, qualname := "cmp_to_key.<locals>.K", hasDict := false, slotNames := ["obj"] }, #[some (.ref B), none, some (.str "K" t3), some (.str "cmp_to_key.<locals>.K" tq), some (.builtin "object.__new__"), some (.bool false)]⟩) :
    wpAny (model prog w) A0 (call (.builtin "classmethod_descriptor.__get__") [.builtin "object.__init_subclass__", .none, .ref a]) (XP s fun v h' => ∃ u, v = .ref u ∧ h'.get? u = some { cls := .type "builtin_function_or_method", data := .fields #[.builtin "object.__init_subclass__", .ref a] }) (fun _ _ => False) s := by
  x_run
local macro_rules | `(tactic| x_close) => `(tactic| first | exact ⟨_, _, rfl, fun _ _ e => e, trivial⟩ | exact ⟨_, _, rfl, mem_keeps (by assumption), trivial⟩)
theorem call_init_sub {s : Shared} {ns B a u : Addr} {t3 tq : Tok} (hC : s.heap.get? a = some ⟨Value.type "type", none, Data.cls { name := "K", bases := [.type "object"], mro := [.ref a, .type "object"], ns := ns, qualname := "cmp_to_key.<locals>.K", hasDict := false, slotNames := ["obj"] }, #[some (.ref B), none, some (.str "K" t3), some (.str "cmp_to_key.<locals>.K" tq), some (.builtin "object.__new__"), some (.bool false)]⟩)
    (hu : s.heap.get? u = some { cls := .type "builtin_function_or_method", data := .fields #[.builtin "object.__init_subclass__", .ref a] }) :
    wpAny (model prog w) A0 (call (.ref u) []) (XP s fun v h' => True) (fun _ _ => False) s := by
  x_run
theorem entry_super_attr : entryFor table "super.__getattribute__" = some Builtin.«super.__getattribute__» := entryFor_of_fast (by kernel_rfl)
theorem plain_super_attr : plainId "super.__getattribute__" = true := by decide +kernel
theorem dropK (a : Addr) : (List.dropWhile (fun x => x != Value.ref a) [Value.ref a, Value.type "object"]).drop 1 = [Value.type "object"] := by
  rw [List.dropWhile_cons_of_neg (by simp)]; rfl
theorem wpAny_forIn_one {α β : Type} {M : Model} {A : Around} {x : α} {b : β} {f : α → β → Sem (ForInStep β)} {Q : β → Shared → Prop} {E : Value → Shared → Prop} {s : Shared} (h : wpAny M A (f x b) (fun r s' => Q (match r with | .done b => b | .yield b => b) s') E s) : wpAny M A (forIn [x] b f) Q E s := by
  rw [List.forIn_cons]
  refine wpAny_bind (wpAny_mono h (fun r s' q => ?_) fun _ _ e => e)
  cases r with
  | done b => exact wpAny_pure q
  | yield b => exact (wpAny_pure q : wpAny M A (pure b) Q E s')
theorem super_attr {A : Around} (hA : Le0 A) {hp : Heap} {g : Array GenState} {d : Drawn} {t : Nat} {os : OsState} {ns B a u : Addr} {t3 tq tn : Tok} {Q : PySem.Fin → Shared → Prop} {E : Value → Shared → Prop} (hC : hp.get? a = some ⟨Value.type "type", none, Data.cls { name := "K", bases := [.type "object"], mro := [.ref a, .type "object"], ns := ns, qualname := "cmp_to_key.<locals>.K", hasDict := false, slotNames := ["obj"] }, #[some (.ref B), none, some (.str "K" t3), some (.str "cmp_to_key.<locals>.K" tq), some (.builtin "object.__new__"), some (.bool false)]⟩)
    (hu : hp.get? u = some { cls := .type "super", data := .fields #[.ref a, .ref a, .ref a] }) (hS : ∃ o, hp.get? cStatics = some o ∧ nsLook "thirdparty.any" o = pure none)
    (hQ : ∀ h' t' b, (∀ b o, hp.get? b = some o → h'.get? b = some o) → h'.get? b = some { cls := .type "builtin_function_or_method", data := .fields #[.builtin "object.__init_subclass__", .ref a] } → Q (.done (.ret (.ref b))) ⟨h', g, d, t', os⟩) :
    wpAny (model prog w) A (Builtin.«super.__getattribute__» ⟨[.ref u, .str "__init_subclass__" tn], []⟩) Q E ⟨hp, g, d, t, os⟩ := by
  obtain ⟨oS, hS1, hS2⟩ := hS
  have e1 : (Str.ofString "__init_subclass__" == Str.ofString "__class__") = false := by decide +kernel
  unfold Builtin.«super.__getattribute__»
  repeat (first | ((fail_if_success (with_reducible (first | show wpAny _ _ (nsGet _ _) _ _ _ | show wpAny _ _ (classOwn _ _) _ _ _))); wp_step))
  refine ns_get hS1 hS2 ?_
  repeat (first | ((fail_if_success (with_reducible (first | show wpAny _ _ (nsGet _ _) _ _ _ | show wpAny _ _ (classOwn _ _) _ _ _ | show wpAny _ _ (forIn _ _ _) _ _ _))); wp_step))
  have e2 : (List.drop 1 (List.dropWhile (fun x => x != #[Value.ref a, Value.ref a, Value.ref a][0]) [Value.ref a, Value.type "object"])) = [Value.type "object"] := dropK a
  dsimp only
  rw [e2]
  have e3 : (Value.ref a == Value.ref a) = true := by simp
  refine wpAny_forIn_one ?_
  refine wpAny_bind (wpAny_of_eq (a := some (.builtin "object.__init_subclass__")) (by kernel_rfl!) ?_)
  refine wpAny_bind (wpAny_of_eq (a := .type "classmethod_descriptor") (by kernel_rfl!) ?_)
  refine wpAny_bind (wpAny_of_eq (a := some (.builtin "classmethod_descriptor.__get__")) (by kernel_rfl!) ?_)
  dsimp only
  have e4 : (if (#[Value.ref a, Value.ref a, Value.ref a][1] == #[Value.ref a, Value.ref a, Value.ref a][2]) = true then Value.none else #[Value.ref a, Value.ref a, Value.ref a][1]) = .none := if_pos e3
  rw [e4]
  refine wpAny_bind (wpAny_holding (wpAny_mono (hA.go (call_get (s := ⟨hp, g, d, t, os⟩) hC)) (fun v s' q => ?_) fun _ _ x => x))
  obtain ⟨h', t', rfl, hk, b, rfl, hb⟩ := q
  repeat wp_step
  exact hQ h' t' b hk hb
theorem get_init_sub {A : Around} (hA : Le0 A.in1) {hp : Heap} {g : Array GenState} {d : Drawn} {t : Nat} {os : OsState} {ns B a u : Addr} {t3 tq : Tok} {Q : Value → Shared → Prop} {E : Value → Shared → Prop} (hC : hp.get? a = some ⟨Value.type "type", none, Data.cls { name := "K", bases := [.type "object"], mro := [.ref a, .type "object"], ns := ns, qualname := "cmp_to_key.<locals>.K", hasDict := false, slotNames := ["obj"] }, #[some (.ref B), none, some (.str "K" t3), some (.str "cmp_to_key.<locals>.K" tq), some (.builtin "object.__new__"), some (.bool false)]⟩)
    (hu : hp.get? u = some { cls := .type "super", data := .fields #[.ref a, .ref a, .ref a] }) (hS : ∃ o, hp.get? cStatics = some o ∧ nsLook "thirdparty.any" o = pure none)
    (hQ : ∀ h' t' b, (∀ b o, hp.get? b = some o → h'.get? b = some o) → h'.get? b = some { cls := .type "builtin_function_or_method", data := .fields #[.builtin "object.__init_subclass__", .ref a] } → Q (.ref b) ⟨h', g, d, t', os⟩) :
    wpAny (model prog w) A (getAttr (.ref u) "__init_subclass__") Q E ⟨hp, g, d, t, os⟩ := by
  have hlk := F.ks_slot_super_ga.lookup
  have hT : ∀ t', (⟨hp, g, d, t', os⟩ : Shared).TypeIs (.ref u) "super" := fun _ => ⟨_, hu, rfl⟩
  unfold getAttr getAttrBy
  refine wpAny_bind (wpAny_mkText (wpAny_holding (wpAny_bind (wpAny_typeOf (hT _) (wpAny_bind (wpAny_of_eq hlk ?_))))))
  repeat (first | ((fail_if_success (with_reducible (first | show wpAny _ _ (call _ _) _ _ _ | show wpAny _ _ (bindSpecial _ _) _ _ _))); wp_step))
  refine wpAny_of_eq (F.ks_slot_super_ga.bind _) ?_
  dsimp only
  refine wpAny_mono (Q := fun v s' => ∃ b h' t', v = .ref b ∧ s' = ⟨h', g, d, t', os⟩ ∧ (∀ b o, hp.get? b = some o → h'.get? b = some o) ∧ h'.get? b = some { cls := .type "builtin_function_or_method", data := .fields #[.builtin "object.__init_subclass__", .ref a] }) (E := fun _ _ => False)
    (wpAny_call_entry F.ks_slot_super_ga (hT _) F.ks_entry_super_ga (super_attr hA hC hu hS (fun h' t' b hk hb => ⟨_, rfl, _, _, _, rfl, rfl, hk, hb⟩)) (F.ks_gaArgs_super _ _)) (fun v s' q => ?_) fun _ _ z => z.elim
  obtain ⟨b, h', t', rfl, rfl, hk, hb⟩ := q
  repeat wp_step
  exact hQ h' t' b hk hb
end Mq
set_option tactic.hygienic false
namespace Mq
open PySem PySem.Spec PySem.Calls PyProof.Rows PySem.W
variable {prog : Program} {w : World}
theorem allC {α : Type} {P : α → Prop} {a : α} {l : List α} (h : P a) (h' : ∀ x ∈ l, P x) : ∀ x ∈ a :: l, P x := List.forall_mem_cons.mpr ⟨h, h'⟩
theorem flt (a : Addr) : List.filter (fun x => x != Value.ref a) [Value.ref a, Value.type "object"] = [Value.type "object"] := by
  rw [List.filter_cons_of_neg (by simp), List.filter_cons_of_pos (by rfl)]; rfl
theorem type_new {A : Around} (hA : Le0 A) (hA1 : Le0 A.in1) {s : Shared} {B N SL ST f0 f1 f2 f3 f4 f5 : Addr} {ts tm tq tl t3 : Tok} {nB nSL nN : Nat} {R : PySem.Fin → Shared → Prop} {E : Value → Shared → Prop}
  {i0 i1 i2 i3 i4 i5 i6 i7 i8 i9 i10 i11 : Int} {k0 k1 k2 k3 k4 k5 k6 k7 k8 k9 k10 k11 : Tok} {ln : Int}
  (hB : s.heap.get? B = some { cls := .type "tuple", data := .seq #[.type "object"] nB })
  (hN : s.heap.get? N = some { cls := .type "dict", data := .dict #[⟨i0, .str "__module__" k0, .str "cpy313.functools" tm⟩, ⟨i1, .str "__qualname__" k1, .str "cmp_to_key.<locals>.K" tq⟩, ⟨i2, .str "__firstlineno__" k2, .int ln tl⟩, ⟨i3, .str "__slots__" k3, .ref SL⟩, ⟨i4, .str "__init__" k4, .ref f0⟩, ⟨i5, .str "__lt__" k5, .ref f1⟩, ⟨i6, .str "__gt__" k6, .ref f2⟩, ⟨i7, .str "__eq__" k7, .ref f3⟩, ⟨i8, .str "__le__" k8, .ref f4⟩, ⟨i9, .str "__ge__" k9, .ref f5⟩, ⟨i10, .str "__hash__" k10, .none⟩, ⟨i11, .str "__static_attributes__" k11, .ref ST⟩] nN })
  (hSL : s.heap.get? SL = some { cls := .type "list", data := .seq #[.str "obj" ts] nSL })
  (hN1 : (N == sysModules) = false) (hS : ∃ o, s.heap.get? cStatics = some o ∧ nsLook "thirdparty.any" o = pure none)
  (hF : ∀ f ∈ [f0, f1, f2, f3, f4, f5], ∃ o, s.heap.get? f = some o ∧ o.cls = .type "function") (hST : ∃ o, s.heap.get? ST = some o ∧ o.cls = .type "tuple")
  (hQ : ∀ h' t' a ns md i12 k12 i13 k13, (∀ b o, s.heap.get? b = some o → h'.get? b = some o) → s.heap.get? a = none → s.heap.get? ns = none → s.heap.get? md = none → md ≠ ns → md ≠ a → ns ≠ a →
    h'.get? a = some ⟨Value.type "type", none, Data.cls { name := "K", bases := [.type "object"], mro := [.ref a, .type "object"], ns := ns, qualname := "cmp_to_key.<locals>.K", hasDict := false, slotNames := ["obj"] }, #[some (.ref B), none, some (.str "K" t3), some (.str "cmp_to_key.<locals>.K" tq), some (.builtin "object.__new__"), some (.bool false)]⟩ →
    h'.get? ns = some ⟨.type "dict", none, .dict #[⟨i0, .str "__module__" k0, .str "cpy313.functools" tm⟩, ⟨i2, .str "__firstlineno__" k2, .int ln tl⟩, ⟨i3, .str "__slots__" k3, .ref SL⟩, ⟨i4, .str "__init__" k4, .ref f0⟩, ⟨i5, .str "__lt__" k5, .ref f1⟩, ⟨i6, .str "__gt__" k6, .ref f2⟩, ⟨i7, .str "__eq__" k7, .ref f3⟩, ⟨i8, .str "__le__" k8, .ref f4⟩, ⟨i9, .str "__ge__" k9, .ref f5⟩, ⟨i10, .str "__hash__" k10, .none⟩, ⟨i11, .str "__static_attributes__" k11, .ref ST⟩, ⟨i12, .str "obj" k12, .ref md⟩, ⟨i13, .str "__doc__" k13, .none⟩] 3, #[]⟩ →
    (∃ tb, h'.get? md = some { cls := Value.type "member_descriptor", data := Data.fields #[Value.str (Str.ofString "obj") tb, Value.ref a, Value.builtin "proto.slot", Value.builtin "proto.slot#set", .int 0 0] }) → R (.done (.ret (.ref a))) { s with heap := h', toks := t' }) :
  wpAny (model prog w) A (Builtin.«type.__new__» ⟨[.type "type", .str "K" t3, .ref B, .ref N], []⟩) R E s := by
  obtain ⟨hp, g, d, tk', os⟩ := s
  simp only at hB hN hSL hS hF hST hQ
  generalize hes : (#[⟨i0, .str "__module__" k0, .str "cpy313.functools" tm⟩, ⟨i1, .str "__qualname__" k1, .str "cmp_to_key.<locals>.K" tq⟩, ⟨i2, .str "__firstlineno__" k2, .int ln tl⟩, ⟨i3, .str "__slots__" k3, .ref SL⟩, ⟨i4, .str "__init__" k4, .ref f0⟩, ⟨i5, .str "__lt__" k5, .ref f1⟩, ⟨i6, .str "__gt__" k6, .ref f2⟩, ⟨i7, .str "__eq__" k7, .ref f3⟩, ⟨i8, .str "__le__" k8, .ref f4⟩, ⟨i9, .str "__ge__" k9, .ref f5⟩, ⟨i10, .str "__hash__" k10, .none⟩, ⟨i11, .str "__static_attributes__" k11, .ref ST⟩] : Array DictEntry) = es at hN
  have he : es.find? (·.key.isStr "__slots__") = some ⟨i3, .str "__slots__" k3, .ref SL⟩ := by rw [← hes]; kernel_rfl!
  have hn : es.any (·.key.isStr "obj") = false := by rw [← hes]; kernel_rfl!
  have hmod : es.any (·.key.isStr "__module__") = true := by rw [← hes]; kernel_rfl!
  have hz : ¬ (es.size > sizeLine + 1) := by rw [← hes, sizeLine_eq]; simp
  have hsur : ((Str.ofString "K").cps.any fun c => decide (55296 ≤ c) && decide (c ≤ 57343)) = false := by kernel_rfl!
  have hnul : (Str.ofString "K").cps.contains 0 = false := by kernel_rfl!
  have it1 := KF.iter_dict
  unfold Builtin.«type.__new__»
  repeat (first | ((with_reducible first | refine wpAny_of_eq KF.sub_tuple ?_ | refine wpAny_of_eq KF.sub_dict ?_ | refine wpAny_of_eq KF.sub_type ?_ | refine wpAny_of_eq KF.sub_list_str ?_ | refine wpAny_of_eq KF.ext_object ?_ | refine wpAny_of_eq KF.best_object ?_ | refine wpAny_of_eq KF.names_object ?_ | refine wpAny_of_eq KF.dict_object ?_ | refine wpAny_of_eq KF.weak_object ?_ | refine wpAny_of_eq KF.var_object ?_ | refine wpAny_of_eq KF.hook_type ?_ | refine wpAny_of_eq KF.lin_object ?_ | refine wpAny_of_eq KF.type_object ?_ | refine wpAny_of_eq KF.made_object ?_ | refine wpAny_of_eq (KF.note_object _) ?_ | refine wpAny_of_eq KF.turned_object ?_)) | (first | ((with_reducible show wpAny _ _ (Builtin.notOverATurnedClass _) _ _ _); (show wpAny _ _ (Builtin.notOverATurnedClass [Value.type "object"]) _ _ _); refine wpAny_of_eq KF.turned_object ?_) | ((with_reducible show wpAny _ _ (Builtin.extendedBase _) _ _ _); (show wpAny _ _ (Builtin.extendedBase [Value.type "object"]) _ _ _); refine wpAny_of_eq KF.ext_object ?_) | ((with_reducible show wpAny _ _ (Builtin.Slots.bestBase _) _ _ _); (show wpAny _ _ (Builtin.Slots.bestBase [Value.type "object"]) _ _ _); refine wpAny_of_eq KF.best_object ?_) | ((with_reducible show wpAny _ _ (Builtin.linearize _ _) _ _ _); (show wpAny _ _ (Builtin.linearize [Value.type "object"] mroOf) _ _ _); refine wpAny_of_eq KF.lin_object ?_)) | ((fail_if_success (with_reducible show wpAny _ _ (Builtin.Slots.read _ _ _) _ _ _)); wp_step))
  refine slots_read hA hSL he hn (fun h1 tk1 ke1 => ?_)
  repeat (first | ((fail_if_success (with_reducible show wpAny _ _ (nsGet _ _) _ _ _)); wp_step))
  rw [if_neg (by rw [hnul]; decide)]
  have eN : (h1.push { cls := .type "dict", data := .dict es }).get? h1.objs.size = some { cls := .type "dict", data := .dict es } := Heap.get?_push_size _ rfl
  have ke2 : ∀ b x, hp.get? b = some x → (h1.push { cls := .type "dict", data := .dict es }).get? b = some x := fun b x e => Heap.get?_push_of_some _ (ke1 b x e)
  have fns : hp.get? h1.objs.size = none := by
    cases q : hp.get? h1.objs.size with
    | none => rfl
    | some x => have := ke1 _ _ q; rw [get?_size] at this; cases this
  generalize h1.push { cls := .type "dict", data := .dict es } = h2 at eN ke2 ⊢
  generalize h1.objs.size = ns at eN fns ⊢
  refine wpAny_bind (ns_get eN (v := some (.str "cmp_to_key.<locals>.K" tq)) (by rw [← hes]; kernel_rfl!) ?_)
  refine wpAny_bind (ns_get eN (v := some (.str "cmp_to_key.<locals>.K" tq)) (by rw [← hes]; kernel_rfl!) ?_)
  repeat (first | ((fail_if_success (with_reducible show wpAny _ _ (nsGet _ _) _ _ _)); wp_step))
  refine ns_get eN (v := none) (by rw [← hes]; kernel_rfl!) ?_
  repeat (first | ((fail_if_success (with_reducible show wpAny _ _ (setSlotAt _ _ _) _ _ _)); wp_step))
  have fa : hp.get? h2.objs.size = none := by
    cases q : hp.get? h2.objs.size with
    | none => rfl
    | some x => have := ke2 _ _ q; rw [get?_size] at this; cases this
  have T0 : TS (fun b => hp.get? b) (h2.push { cls := Value.type "type", data := Data.cls { name := "K", bases := [.type "object"], mro := [], ns := ns, qualname := "cmp_to_key.<locals>.K" } }) ns h2.objs.size { cls := .type "dict", data := .dict es } { cls := Value.type "type", data := Data.cls { name := "K", bases := [.type "object"], mro := [], ns := ns, qualname := "cmp_to_key.<locals>.K" } } :=
    ⟨fun b x e => Heap.get?_push_of_some _ (ke2 b x e), Heap.get?_push_of_some _ eN, Heap.get?_push_size _ rfl, (fun q => by rw [q, get?_size] at eN; cases eN), fns, fa⟩
  refine ts_setSlot T0 (by decide) rfl (fun h3 T1 => ?_)
  (repeat (first | ((with_reducible first | refine wpAny_of_eq KF.sub_tuple ?_ | refine wpAny_of_eq KF.sub_dict ?_ | refine wpAny_of_eq KF.sub_type ?_ | refine wpAny_of_eq KF.sub_list_str ?_ | refine wpAny_of_eq KF.ext_object ?_ | refine wpAny_of_eq KF.best_object ?_ | refine wpAny_of_eq KF.names_object ?_ | refine wpAny_of_eq KF.dict_object ?_ | refine wpAny_of_eq KF.weak_object ?_ | refine wpAny_of_eq KF.var_object ?_ | refine wpAny_of_eq KF.hook_type ?_ | refine wpAny_of_eq KF.lin_object ?_ | refine wpAny_of_eq KF.type_object ?_ | refine wpAny_of_eq KF.made_object ?_ | refine wpAny_of_eq (KF.note_object _) ?_ | refine wpAny_of_eq KF.turned_object ?_)) | (first | ((with_reducible show wpAny _ _ (Builtin.notOverATurnedClass _) _ _ _); (show wpAny _ _ (Builtin.notOverATurnedClass [Value.type "object"]) _ _ _); refine wpAny_of_eq KF.turned_object ?_) | ((with_reducible show wpAny _ _ (Builtin.extendedBase _) _ _ _); (show wpAny _ _ (Builtin.extendedBase [Value.type "object"]) _ _ _); refine wpAny_of_eq KF.ext_object ?_) | ((with_reducible show wpAny _ _ (Builtin.Slots.bestBase _) _ _ _); (show wpAny _ _ (Builtin.Slots.bestBase [Value.type "object"]) _ _ _); refine wpAny_of_eq KF.best_object ?_) | ((with_reducible show wpAny _ _ (Builtin.linearize _ _) _ _ _); (show wpAny _ _ (Builtin.linearize [Value.type "object"] mroOf) _ _ _); refine wpAny_of_eq KF.lin_object ?_)) | ((fail_if_success ((with_reducible first | show wpAny _ _ (nsGet _ _) _ _ _ | show wpAny _ _ (setSlotAt _ _ _) _ _ _ | show wpAny _ _ (slotAt _ _) _ _ _ | show wpAny _ _ (nsDel _ _) _ _ _ | show wpAny _ _ (nsSet _ _ _) _ _ _ | show wpAny _ _ (nsSetByValue _ _ _) _ _ _ | show wpAny _ _ (updateCls _ _) _ _ _ | show wpAny _ _ (Bind.refreshMaker _) _ _ _ | show wpAny _ _ (Sem.tryCatch _ _) _ _ _ | show wpAny _ _ (Builtin.Slots.install _ _ _ _) _ _ _ | show wpAny _ _ (List.anyM _ _) _ _ _ | show wpAny _ _ (dictEntries _) _ _ _))); wp_step)))
  refine ts_setSlot T1 (by decide) rfl (fun h4 T2 => ?_)
  (repeat (first | ((with_reducible first | refine wpAny_of_eq KF.sub_tuple ?_ | refine wpAny_of_eq KF.sub_dict ?_ | refine wpAny_of_eq KF.sub_type ?_ | refine wpAny_of_eq KF.sub_list_str ?_ | refine wpAny_of_eq KF.ext_object ?_ | refine wpAny_of_eq KF.best_object ?_ | refine wpAny_of_eq KF.names_object ?_ | refine wpAny_of_eq KF.dict_object ?_ | refine wpAny_of_eq KF.weak_object ?_ | refine wpAny_of_eq KF.var_object ?_ | refine wpAny_of_eq KF.hook_type ?_ | refine wpAny_of_eq KF.lin_object ?_ | refine wpAny_of_eq KF.type_object ?_ | refine wpAny_of_eq KF.made_object ?_ | refine wpAny_of_eq (KF.note_object _) ?_ | refine wpAny_of_eq KF.turned_object ?_)) | (first | ((with_reducible show wpAny _ _ (Builtin.notOverATurnedClass _) _ _ _); (show wpAny _ _ (Builtin.notOverATurnedClass [Value.type "object"]) _ _ _); refine wpAny_of_eq KF.turned_object ?_) | ((with_reducible show wpAny _ _ (Builtin.extendedBase _) _ _ _); (show wpAny _ _ (Builtin.extendedBase [Value.type "object"]) _ _ _); refine wpAny_of_eq KF.ext_object ?_) | ((with_reducible show wpAny _ _ (Builtin.Slots.bestBase _) _ _ _); (show wpAny _ _ (Builtin.Slots.bestBase [Value.type "object"]) _ _ _); refine wpAny_of_eq KF.best_object ?_) | ((with_reducible show wpAny _ _ (Builtin.linearize _ _) _ _ _); (show wpAny _ _ (Builtin.linearize [Value.type "object"] mroOf) _ _ _); refine wpAny_of_eq KF.lin_object ?_)) | ((fail_if_success ((with_reducible first | show wpAny _ _ (nsGet _ _) _ _ _ | show wpAny _ _ (setSlotAt _ _ _) _ _ _ | show wpAny _ _ (slotAt _ _) _ _ _ | show wpAny _ _ (nsDel _ _) _ _ _ | show wpAny _ _ (nsSet _ _ _) _ _ _ | show wpAny _ _ (nsSetByValue _ _ _) _ _ _ | show wpAny _ _ (updateCls _ _) _ _ _ | show wpAny _ _ (Bind.refreshMaker _) _ _ _ | show wpAny _ _ (Sem.tryCatch _ _) _ _ _ | show wpAny _ _ (Builtin.Slots.install _ _ _ _) _ _ _ | show wpAny _ _ (List.anyM _ _) _ _ _ | show wpAny _ _ (dictEntries _) _ _ _))); wp_step)))
  refine ts_setSlot T2 (by decide) rfl (fun h5 T3 => ?_)
  (repeat (first | ((with_reducible first | refine wpAny_of_eq KF.sub_tuple ?_ | refine wpAny_of_eq KF.sub_dict ?_ | refine wpAny_of_eq KF.sub_type ?_ | refine wpAny_of_eq KF.sub_list_str ?_ | refine wpAny_of_eq KF.ext_object ?_ | refine wpAny_of_eq KF.best_object ?_ | refine wpAny_of_eq KF.names_object ?_ | refine wpAny_of_eq KF.dict_object ?_ | refine wpAny_of_eq KF.weak_object ?_ | refine wpAny_of_eq KF.var_object ?_ | refine wpAny_of_eq KF.hook_type ?_ | refine wpAny_of_eq KF.lin_object ?_ | refine wpAny_of_eq KF.type_object ?_ | refine wpAny_of_eq KF.made_object ?_ | refine wpAny_of_eq (KF.note_object _) ?_ | refine wpAny_of_eq KF.turned_object ?_)) | (first | ((with_reducible show wpAny _ _ (Builtin.notOverATurnedClass _) _ _ _); (show wpAny _ _ (Builtin.notOverATurnedClass [Value.type "object"]) _ _ _); refine wpAny_of_eq KF.turned_object ?_) | ((with_reducible show wpAny _ _ (Builtin.extendedBase _) _ _ _); (show wpAny _ _ (Builtin.extendedBase [Value.type "object"]) _ _ _); refine wpAny_of_eq KF.ext_object ?_) | ((with_reducible show wpAny _ _ (Builtin.Slots.bestBase _) _ _ _); (show wpAny _ _ (Builtin.Slots.bestBase [Value.type "object"]) _ _ _); refine wpAny_of_eq KF.best_object ?_) | ((with_reducible show wpAny _ _ (Builtin.linearize _ _) _ _ _); (show wpAny _ _ (Builtin.linearize [Value.type "object"] mroOf) _ _ _); refine wpAny_of_eq KF.lin_object ?_)) | ((fail_if_success ((with_reducible first | show wpAny _ _ (nsGet _ _) _ _ _ | show wpAny _ _ (setSlotAt _ _ _) _ _ _ | show wpAny _ _ (slotAt _ _) _ _ _ | show wpAny _ _ (nsDel _ _) _ _ _ | show wpAny _ _ (nsSet _ _ _) _ _ _ | show wpAny _ _ (nsSetByValue _ _ _) _ _ _ | show wpAny _ _ (updateCls _ _) _ _ _ | show wpAny _ _ (Bind.refreshMaker _) _ _ _ | show wpAny _ _ (Sem.tryCatch _ _) _ _ _ | show wpAny _ _ (Builtin.Slots.install _ _ _ _) _ _ _ | show wpAny _ _ (List.anyM _ _) _ _ _ | show wpAny _ _ (dictEntries _) _ _ _))); wp_step)))
  refine ts_nsDel T3 (by rw [← hes]; kernel_rfl!) (by rw [← hes]; kernel_rfl!) (fun h6 T4 => ?_)
  (repeat (first | ((with_reducible first | refine wpAny_of_eq KF.sub_tuple ?_ | refine wpAny_of_eq KF.sub_dict ?_ | refine wpAny_of_eq KF.sub_type ?_ | refine wpAny_of_eq KF.sub_list_str ?_ | refine wpAny_of_eq KF.ext_object ?_ | refine wpAny_of_eq KF.best_object ?_ | refine wpAny_of_eq KF.names_object ?_ | refine wpAny_of_eq KF.dict_object ?_ | refine wpAny_of_eq KF.weak_object ?_ | refine wpAny_of_eq KF.var_object ?_ | refine wpAny_of_eq KF.hook_type ?_ | refine wpAny_of_eq KF.lin_object ?_ | refine wpAny_of_eq KF.type_object ?_ | refine wpAny_of_eq KF.made_object ?_ | refine wpAny_of_eq (KF.note_object _) ?_ | refine wpAny_of_eq KF.turned_object ?_)) | (first | ((with_reducible show wpAny _ _ (Builtin.notOverATurnedClass _) _ _ _); (show wpAny _ _ (Builtin.notOverATurnedClass [Value.type "object"]) _ _ _); refine wpAny_of_eq KF.turned_object ?_) | ((with_reducible show wpAny _ _ (Builtin.extendedBase _) _ _ _); (show wpAny _ _ (Builtin.extendedBase [Value.type "object"]) _ _ _); refine wpAny_of_eq KF.ext_object ?_) | ((with_reducible show wpAny _ _ (Builtin.Slots.bestBase _) _ _ _); (show wpAny _ _ (Builtin.Slots.bestBase [Value.type "object"]) _ _ _); refine wpAny_of_eq KF.best_object ?_) | ((with_reducible show wpAny _ _ (Builtin.linearize _ _) _ _ _); (show wpAny _ _ (Builtin.linearize [Value.type "object"] mroOf) _ _ _); refine wpAny_of_eq KF.lin_object ?_)) | ((fail_if_success ((with_reducible first | show wpAny _ _ (nsGet _ _) _ _ _ | show wpAny _ _ (setSlotAt _ _ _) _ _ _ | show wpAny _ _ (slotAt _ _) _ _ _ | show wpAny _ _ (nsDel _ _) _ _ _ | show wpAny _ _ (nsSet _ _ _) _ _ _ | show wpAny _ _ (nsSetByValue _ _ _) _ _ _ | show wpAny _ _ (updateCls _ _) _ _ _ | show wpAny _ _ (Bind.refreshMaker _) _ _ _ | show wpAny _ _ (Sem.tryCatch _ _) _ _ _ | show wpAny _ _ (Builtin.Slots.install _ _ _ _) _ _ _ | show wpAny _ _ (List.anyM _ _) _ _ _ | show wpAny _ _ (dictEntries _) _ _ _))); wp_step)))
  refine ts_nsGet T4 (v := none) (by rw [← hes]; kernel_rfl!) ?_
  (repeat (first | ((with_reducible first | refine wpAny_of_eq KF.sub_tuple ?_ | refine wpAny_of_eq KF.sub_dict ?_ | refine wpAny_of_eq KF.sub_type ?_ | refine wpAny_of_eq KF.sub_list_str ?_ | refine wpAny_of_eq KF.ext_object ?_ | refine wpAny_of_eq KF.best_object ?_ | refine wpAny_of_eq KF.names_object ?_ | refine wpAny_of_eq KF.dict_object ?_ | refine wpAny_of_eq KF.weak_object ?_ | refine wpAny_of_eq KF.var_object ?_ | refine wpAny_of_eq KF.hook_type ?_ | refine wpAny_of_eq KF.lin_object ?_ | refine wpAny_of_eq KF.type_object ?_ | refine wpAny_of_eq KF.made_object ?_ | refine wpAny_of_eq (KF.note_object _) ?_ | refine wpAny_of_eq KF.turned_object ?_)) | (first | ((with_reducible show wpAny _ _ (Builtin.notOverATurnedClass _) _ _ _); (show wpAny _ _ (Builtin.notOverATurnedClass [Value.type "object"]) _ _ _); refine wpAny_of_eq KF.turned_object ?_) | ((with_reducible show wpAny _ _ (Builtin.extendedBase _) _ _ _); (show wpAny _ _ (Builtin.extendedBase [Value.type "object"]) _ _ _); refine wpAny_of_eq KF.ext_object ?_) | ((with_reducible show wpAny _ _ (Builtin.Slots.bestBase _) _ _ _); (show wpAny _ _ (Builtin.Slots.bestBase [Value.type "object"]) _ _ _); refine wpAny_of_eq KF.best_object ?_) | ((with_reducible show wpAny _ _ (Builtin.linearize _ _) _ _ _); (show wpAny _ _ (Builtin.linearize [Value.type "object"] mroOf) _ _ _); refine wpAny_of_eq KF.lin_object ?_)) | ((fail_if_success ((with_reducible first | show wpAny _ _ (nsGet _ _) _ _ _ | show wpAny _ _ (setSlotAt _ _ _) _ _ _ | show wpAny _ _ (slotAt _ _) _ _ _ | show wpAny _ _ (nsDel _ _) _ _ _ | show wpAny _ _ (nsSet _ _ _) _ _ _ | show wpAny _ _ (nsSetByValue _ _ _) _ _ _ | show wpAny _ _ (updateCls _ _) _ _ _ | show wpAny _ _ (Bind.refreshMaker _) _ _ _ | show wpAny _ _ (Sem.tryCatch _ _) _ _ _ | show wpAny _ _ (Builtin.Slots.install _ _ _ _) _ _ _ | show wpAny _ _ (List.anyM _ _) _ _ _ | show wpAny _ _ (dictEntries _) _ _ _))); wp_step)))
  refine ts_nsGet T4 (v := none) (by rw [← hes]; kernel_rfl!) ?_
  (repeat (first | ((with_reducible first | refine wpAny_of_eq KF.sub_tuple ?_ | refine wpAny_of_eq KF.sub_dict ?_ | refine wpAny_of_eq KF.sub_type ?_ | refine wpAny_of_eq KF.sub_list_str ?_ | refine wpAny_of_eq KF.ext_object ?_ | refine wpAny_of_eq KF.best_object ?_ | refine wpAny_of_eq KF.names_object ?_ | refine wpAny_of_eq KF.dict_object ?_ | refine wpAny_of_eq KF.weak_object ?_ | refine wpAny_of_eq KF.var_object ?_ | refine wpAny_of_eq KF.hook_type ?_ | refine wpAny_of_eq KF.lin_object ?_ | refine wpAny_of_eq KF.type_object ?_ | refine wpAny_of_eq KF.made_object ?_ | refine wpAny_of_eq (KF.note_object _) ?_ | refine wpAny_of_eq KF.turned_object ?_)) | (first | ((with_reducible show wpAny _ _ (Builtin.notOverATurnedClass _) _ _ _); (show wpAny _ _ (Builtin.notOverATurnedClass [Value.type "object"]) _ _ _); refine wpAny_of_eq KF.turned_object ?_) | ((with_reducible show wpAny _ _ (Builtin.extendedBase _) _ _ _); (show wpAny _ _ (Builtin.extendedBase [Value.type "object"]) _ _ _); refine wpAny_of_eq KF.ext_object ?_) | ((with_reducible show wpAny _ _ (Builtin.Slots.bestBase _) _ _ _); (show wpAny _ _ (Builtin.Slots.bestBase [Value.type "object"]) _ _ _); refine wpAny_of_eq KF.best_object ?_) | ((with_reducible show wpAny _ _ (Builtin.linearize _ _) _ _ _); (show wpAny _ _ (Builtin.linearize [Value.type "object"] mroOf) _ _ _); refine wpAny_of_eq KF.lin_object ?_)) | ((fail_if_success ((with_reducible first | show wpAny _ _ (nsGet _ _) _ _ _ | show wpAny _ _ (setSlotAt _ _ _) _ _ _ | show wpAny _ _ (slotAt _ _) _ _ _ | show wpAny _ _ (nsDel _ _) _ _ _ | show wpAny _ _ (nsSet _ _ _) _ _ _ | show wpAny _ _ (nsSetByValue _ _ _) _ _ _ | show wpAny _ _ (updateCls _ _) _ _ _ | show wpAny _ _ (Bind.refreshMaker _) _ _ _ | show wpAny _ _ (Sem.tryCatch _ _) _ _ _ | show wpAny _ _ (Builtin.Slots.install _ _ _ _) _ _ _ | show wpAny _ _ (List.anyM _ _) _ _ _ | show wpAny _ _ (dictEntries _) _ _ _))); wp_step)))
  refine ts_nsGet T4 (v := none) (by rw [← hes]; kernel_rfl!) ?_
  (repeat (first | ((with_reducible first | refine wpAny_of_eq KF.sub_tuple ?_ | refine wpAny_of_eq KF.sub_dict ?_ | refine wpAny_of_eq KF.sub_type ?_ | refine wpAny_of_eq KF.sub_list_str ?_ | refine wpAny_of_eq KF.ext_object ?_ | refine wpAny_of_eq KF.best_object ?_ | refine wpAny_of_eq KF.names_object ?_ | refine wpAny_of_eq KF.dict_object ?_ | refine wpAny_of_eq KF.weak_object ?_ | refine wpAny_of_eq KF.var_object ?_ | refine wpAny_of_eq KF.hook_type ?_ | refine wpAny_of_eq KF.lin_object ?_ | refine wpAny_of_eq KF.type_object ?_ | refine wpAny_of_eq KF.made_object ?_ | refine wpAny_of_eq (KF.note_object _) ?_ | refine wpAny_of_eq KF.turned_object ?_)) | (first | ((with_reducible show wpAny _ _ (Builtin.notOverATurnedClass _) _ _ _); (show wpAny _ _ (Builtin.notOverATurnedClass [Value.type "object"]) _ _ _); refine wpAny_of_eq KF.turned_object ?_) | ((with_reducible show wpAny _ _ (Builtin.extendedBase _) _ _ _); (show wpAny _ _ (Builtin.extendedBase [Value.type "object"]) _ _ _); refine wpAny_of_eq KF.ext_object ?_) | ((with_reducible show wpAny _ _ (Builtin.Slots.bestBase _) _ _ _); (show wpAny _ _ (Builtin.Slots.bestBase [Value.type "object"]) _ _ _); refine wpAny_of_eq KF.best_object ?_) | ((with_reducible show wpAny _ _ (Builtin.linearize _ _) _ _ _); (show wpAny _ _ (Builtin.linearize [Value.type "object"] mroOf) _ _ _); refine wpAny_of_eq KF.lin_object ?_)) | ((fail_if_success ((with_reducible first | show wpAny _ _ (nsGet _ _) _ _ _ | show wpAny _ _ (setSlotAt _ _ _) _ _ _ | show wpAny _ _ (slotAt _ _) _ _ _ | show wpAny _ _ (nsDel _ _) _ _ _ | show wpAny _ _ (nsSet _ _ _) _ _ _ | show wpAny _ _ (nsSetByValue _ _ _) _ _ _ | show wpAny _ _ (updateCls _ _) _ _ _ | show wpAny _ _ (Bind.refreshMaker _) _ _ _ | show wpAny _ _ (Sem.tryCatch _ _) _ _ _ | show wpAny _ _ (Builtin.Slots.install _ _ _ _) _ _ _ | show wpAny _ _ (List.anyM _ _) _ _ _ | show wpAny _ _ (dictEntries _) _ _ _))); wp_step)))
  refine ts_nsGet T4 (v := none) (by rw [← hes]; kernel_rfl!) ?_
  (repeat (first | ((with_reducible first | refine wpAny_of_eq KF.sub_tuple ?_ | refine wpAny_of_eq KF.sub_dict ?_ | refine wpAny_of_eq KF.sub_type ?_ | refine wpAny_of_eq KF.sub_list_str ?_ | refine wpAny_of_eq KF.ext_object ?_ | refine wpAny_of_eq KF.best_object ?_ | refine wpAny_of_eq KF.names_object ?_ | refine wpAny_of_eq KF.dict_object ?_ | refine wpAny_of_eq KF.weak_object ?_ | refine wpAny_of_eq KF.var_object ?_ | refine wpAny_of_eq KF.hook_type ?_ | refine wpAny_of_eq KF.lin_object ?_ | refine wpAny_of_eq KF.type_object ?_ | refine wpAny_of_eq KF.made_object ?_ | refine wpAny_of_eq (KF.note_object _) ?_ | refine wpAny_of_eq KF.turned_object ?_)) | (first | ((with_reducible show wpAny _ _ (Builtin.notOverATurnedClass _) _ _ _); (show wpAny _ _ (Builtin.notOverATurnedClass [Value.type "object"]) _ _ _); refine wpAny_of_eq KF.turned_object ?_) | ((with_reducible show wpAny _ _ (Builtin.extendedBase _) _ _ _); (show wpAny _ _ (Builtin.extendedBase [Value.type "object"]) _ _ _); refine wpAny_of_eq KF.ext_object ?_) | ((with_reducible show wpAny _ _ (Builtin.Slots.bestBase _) _ _ _); (show wpAny _ _ (Builtin.Slots.bestBase [Value.type "object"]) _ _ _); refine wpAny_of_eq KF.best_object ?_) | ((with_reducible show wpAny _ _ (Builtin.linearize _ _) _ _ _); (show wpAny _ _ (Builtin.linearize [Value.type "object"] mroOf) _ _ _); refine wpAny_of_eq KF.lin_object ?_)) | ((fail_if_success ((with_reducible first | show wpAny _ _ (nsGet _ _) _ _ _ | show wpAny _ _ (setSlotAt _ _ _) _ _ _ | show wpAny _ _ (slotAt _ _) _ _ _ | show wpAny _ _ (nsDel _ _) _ _ _ | show wpAny _ _ (nsSet _ _ _) _ _ _ | show wpAny _ _ (nsSetByValue _ _ _) _ _ _ | show wpAny _ _ (updateCls _ _) _ _ _ | show wpAny _ _ (Bind.refreshMaker _) _ _ _ | show wpAny _ _ (Sem.tryCatch _ _) _ _ _ | show wpAny _ _ (Builtin.Slots.install _ _ _ _) _ _ _ | show wpAny _ _ (List.anyM _ _) _ _ _ | show wpAny _ _ (dictEntries _) _ _ _))); wp_step)))
  refine ts_nsGet T4 (v := none) (by rw [← hes]; kernel_rfl!) ?_
  (repeat (first | ((with_reducible first | refine wpAny_of_eq KF.sub_tuple ?_ | refine wpAny_of_eq KF.sub_dict ?_ | refine wpAny_of_eq KF.sub_type ?_ | refine wpAny_of_eq KF.sub_list_str ?_ | refine wpAny_of_eq KF.ext_object ?_ | refine wpAny_of_eq KF.best_object ?_ | refine wpAny_of_eq KF.names_object ?_ | refine wpAny_of_eq KF.dict_object ?_ | refine wpAny_of_eq KF.weak_object ?_ | refine wpAny_of_eq KF.var_object ?_ | refine wpAny_of_eq KF.hook_type ?_ | refine wpAny_of_eq KF.lin_object ?_ | refine wpAny_of_eq KF.type_object ?_ | refine wpAny_of_eq KF.made_object ?_ | refine wpAny_of_eq (KF.note_object _) ?_ | refine wpAny_of_eq KF.turned_object ?_)) | (first | ((with_reducible show wpAny _ _ (Builtin.notOverATurnedClass _) _ _ _); (show wpAny _ _ (Builtin.notOverATurnedClass [Value.type "object"]) _ _ _); refine wpAny_of_eq KF.turned_object ?_) | ((with_reducible show wpAny _ _ (Builtin.extendedBase _) _ _ _); (show wpAny _ _ (Builtin.extendedBase [Value.type "object"]) _ _ _); refine wpAny_of_eq KF.ext_object ?_) | ((with_reducible show wpAny _ _ (Builtin.Slots.bestBase _) _ _ _); (show wpAny _ _ (Builtin.Slots.bestBase [Value.type "object"]) _ _ _); refine wpAny_of_eq KF.best_object ?_) | ((with_reducible show wpAny _ _ (Builtin.linearize _ _) _ _ _); (show wpAny _ _ (Builtin.linearize [Value.type "object"] mroOf) _ _ _); refine wpAny_of_eq KF.lin_object ?_)) | ((fail_if_success ((with_reducible first | show wpAny _ _ (nsGet _ _) _ _ _ | show wpAny _ _ (setSlotAt _ _ _) _ _ _ | show wpAny _ _ (slotAt _ _) _ _ _ | show wpAny _ _ (nsDel _ _) _ _ _ | show wpAny _ _ (nsSet _ _ _) _ _ _ | show wpAny _ _ (nsSetByValue _ _ _) _ _ _ | show wpAny _ _ (updateCls _ _) _ _ _ | show wpAny _ _ (Bind.refreshMaker _) _ _ _ | show wpAny _ _ (Sem.tryCatch _ _) _ _ _ | show wpAny _ _ (Builtin.Slots.install _ _ _ _) _ _ _ | show wpAny _ _ (List.anyM _ _) _ _ _ | show wpAny _ _ (dictEntries _) _ _ _))); wp_step)))
  refine wpAny_of_eq (a := false) (by rw [show List.filter (fun x => x != Value.ref h2.objs.size) [Value.ref h2.objs.size, Value.type "object"] = [Value.type "object"] from flt _]; kernel_rfl!) ?_
  (repeat (first | ((with_reducible first | refine wpAny_of_eq KF.sub_tuple ?_ | refine wpAny_of_eq KF.sub_dict ?_ | refine wpAny_of_eq KF.sub_type ?_ | refine wpAny_of_eq KF.sub_list_str ?_ | refine wpAny_of_eq KF.ext_object ?_ | refine wpAny_of_eq KF.best_object ?_ | refine wpAny_of_eq KF.names_object ?_ | refine wpAny_of_eq KF.dict_object ?_ | refine wpAny_of_eq KF.weak_object ?_ | refine wpAny_of_eq KF.var_object ?_ | refine wpAny_of_eq KF.hook_type ?_ | refine wpAny_of_eq KF.lin_object ?_ | refine wpAny_of_eq KF.type_object ?_ | refine wpAny_of_eq KF.made_object ?_ | refine wpAny_of_eq (KF.note_object _) ?_ | refine wpAny_of_eq KF.turned_object ?_)) | (first | ((with_reducible show wpAny _ _ (Builtin.notOverATurnedClass _) _ _ _); (show wpAny _ _ (Builtin.notOverATurnedClass [Value.type "object"]) _ _ _); refine wpAny_of_eq KF.turned_object ?_) | ((with_reducible show wpAny _ _ (Builtin.extendedBase _) _ _ _); (show wpAny _ _ (Builtin.extendedBase [Value.type "object"]) _ _ _); refine wpAny_of_eq KF.ext_object ?_) | ((with_reducible show wpAny _ _ (Builtin.Slots.bestBase _) _ _ _); (show wpAny _ _ (Builtin.Slots.bestBase [Value.type "object"]) _ _ _); refine wpAny_of_eq KF.best_object ?_) | ((with_reducible show wpAny _ _ (Builtin.linearize _ _) _ _ _); (show wpAny _ _ (Builtin.linearize [Value.type "object"] mroOf) _ _ _); refine wpAny_of_eq KF.lin_object ?_)) | ((fail_if_success ((with_reducible first | show wpAny _ _ (nsGet _ _) _ _ _ | show wpAny _ _ (setSlotAt _ _ _) _ _ _ | show wpAny _ _ (slotAt _ _) _ _ _ | show wpAny _ _ (nsDel _ _) _ _ _ | show wpAny _ _ (nsSet _ _ _) _ _ _ | show wpAny _ _ (nsSetByValue _ _ _) _ _ _ | show wpAny _ _ (updateCls _ _) _ _ _ | show wpAny _ _ (Bind.refreshMaker _) _ _ _ | show wpAny _ _ (Sem.tryCatch _ _) _ _ _ | show wpAny _ _ (Builtin.Slots.install _ _ _ _) _ _ _ | show wpAny _ _ (List.anyM _ _) _ _ _ | show wpAny _ _ (dictEntries _) _ _ _))); wp_step)))
  replace T4 := T4.conv (on' := Obj.dropName "__qualname__" { cls := .type "dict", data := .dict es }) (o' := ⟨Value.type "type", none, Data.cls { name := "K", bases := [.type "object"], mro := [], ns := ns, qualname := "cmp_to_key.<locals>.K" }, #[some (.ref B), none, some (.str "K" t3), some (.str "cmp_to_key.<locals>.K" tq)]⟩) rfl (by kernel_rfl!)
  skip
  refine ts_updateClsE T4 (by kernel_rfl!) (fun h7 T5 => ?_)
  skip
  (repeat (first | ((with_reducible first | refine wpAny_of_eq KF.sub_tuple ?_ | refine wpAny_of_eq KF.sub_dict ?_ | refine wpAny_of_eq KF.sub_type ?_ | refine wpAny_of_eq KF.sub_list_str ?_ | refine wpAny_of_eq KF.ext_object ?_ | refine wpAny_of_eq KF.best_object ?_ | refine wpAny_of_eq KF.names_object ?_ | refine wpAny_of_eq KF.dict_object ?_ | refine wpAny_of_eq KF.weak_object ?_ | refine wpAny_of_eq KF.var_object ?_ | refine wpAny_of_eq KF.hook_type ?_ | refine wpAny_of_eq KF.lin_object ?_ | refine wpAny_of_eq KF.type_object ?_ | refine wpAny_of_eq KF.made_object ?_ | refine wpAny_of_eq (KF.note_object _) ?_ | refine wpAny_of_eq KF.turned_object ?_)) | (first | ((with_reducible show wpAny _ _ (Builtin.notOverATurnedClass _) _ _ _); (show wpAny _ _ (Builtin.notOverATurnedClass [Value.type "object"]) _ _ _); refine wpAny_of_eq KF.turned_object ?_) | ((with_reducible show wpAny _ _ (Builtin.extendedBase _) _ _ _); (show wpAny _ _ (Builtin.extendedBase [Value.type "object"]) _ _ _); refine wpAny_of_eq KF.ext_object ?_) | ((with_reducible show wpAny _ _ (Builtin.Slots.bestBase _) _ _ _); (show wpAny _ _ (Builtin.Slots.bestBase [Value.type "object"]) _ _ _); refine wpAny_of_eq KF.best_object ?_) | ((with_reducible show wpAny _ _ (Builtin.linearize _ _) _ _ _); (show wpAny _ _ (Builtin.linearize [Value.type "object"] mroOf) _ _ _); refine wpAny_of_eq KF.lin_object ?_)) | ((fail_if_success ((with_reducible first | show wpAny _ _ (nsGet _ _) _ _ _ | show wpAny _ _ (setSlotAt _ _ _) _ _ _ | show wpAny _ _ (slotAt _ _) _ _ _ | show wpAny _ _ (nsDel _ _) _ _ _ | show wpAny _ _ (nsSet _ _ _) _ _ _ | show wpAny _ _ (nsSetByValue _ _ _) _ _ _ | show wpAny _ _ (updateCls _ _) _ _ _ | show wpAny _ _ (Bind.refreshMaker _) _ _ _ | show wpAny _ _ (Sem.tryCatch _ _) _ _ _ | show wpAny _ _ (Builtin.Slots.install _ _ _ _) _ _ _ | show wpAny _ _ (List.anyM _ _) _ _ _ | show wpAny _ _ (dictEntries _) _ _ _))); wp_step)))
  skip
  replace T5 := T5.conv (on' := Obj.dropName "__qualname__" { cls := .type "dict", data := .dict es }) (o' := ⟨Value.type "type", none, Data.cls { name := "K", bases := [.type "object"], mro := [.ref h2.objs.size, .type "object"], ns := ns, qualname := "cmp_to_key.<locals>.K" }, #[some (.ref B), none, some (.str "K" t3), some (.str "cmp_to_key.<locals>.K" tq)]⟩) rfl (by rw [← hes]; kernel_rfl!)
  refine ts_setSlot T5 (by decide) rfl (fun h8 T6 => ?_)
  skip
  (repeat (first | ((with_reducible first | refine wpAny_of_eq KF.sub_tuple ?_ | refine wpAny_of_eq KF.sub_dict ?_ | refine wpAny_of_eq KF.sub_type ?_ | refine wpAny_of_eq KF.sub_list_str ?_ | refine wpAny_of_eq KF.ext_object ?_ | refine wpAny_of_eq KF.best_object ?_ | refine wpAny_of_eq KF.names_object ?_ | refine wpAny_of_eq KF.dict_object ?_ | refine wpAny_of_eq KF.weak_object ?_ | refine wpAny_of_eq KF.var_object ?_ | refine wpAny_of_eq KF.hook_type ?_ | refine wpAny_of_eq KF.lin_object ?_ | refine wpAny_of_eq KF.type_object ?_ | refine wpAny_of_eq KF.made_object ?_ | refine wpAny_of_eq (KF.note_object _) ?_ | refine wpAny_of_eq KF.turned_object ?_)) | (first | ((with_reducible show wpAny _ _ (Builtin.notOverATurnedClass _) _ _ _); (show wpAny _ _ (Builtin.notOverATurnedClass [Value.type "object"]) _ _ _); refine wpAny_of_eq KF.turned_object ?_) | ((with_reducible show wpAny _ _ (Builtin.extendedBase _) _ _ _); (show wpAny _ _ (Builtin.extendedBase [Value.type "object"]) _ _ _); refine wpAny_of_eq KF.ext_object ?_) | ((with_reducible show wpAny _ _ (Builtin.Slots.bestBase _) _ _ _); (show wpAny _ _ (Builtin.Slots.bestBase [Value.type "object"]) _ _ _); refine wpAny_of_eq KF.best_object ?_) | ((with_reducible show wpAny _ _ (Builtin.linearize _ _) _ _ _); (show wpAny _ _ (Builtin.linearize [Value.type "object"] mroOf) _ _ _); refine wpAny_of_eq KF.lin_object ?_)) | ((fail_if_success ((with_reducible first | show wpAny _ _ (nsGet _ _) _ _ _ | show wpAny _ _ (setSlotAt _ _ _) _ _ _ | show wpAny _ _ (slotAt _ _) _ _ _ | show wpAny _ _ (nsDel _ _) _ _ _ | show wpAny _ _ (nsSet _ _ _) _ _ _ | show wpAny _ _ (nsSetByValue _ _ _) _ _ _ | show wpAny _ _ (updateCls _ _) _ _ _ | show wpAny _ _ (Bind.refreshMaker _) _ _ _ | show wpAny _ _ (Sem.tryCatch _ _) _ _ _ | show wpAny _ _ (Builtin.Slots.install _ _ _ _) _ _ _ | show wpAny _ _ (List.anyM _ _) _ _ _ | show wpAny _ _ (dictEntries _) _ _ _))); wp_step)))
  replace T6 := T6.conv (on' := Obj.dropName "__qualname__" { cls := .type "dict", data := .dict es }) (o' := ⟨Value.type "type", none, Data.cls { name := "K", bases := [.type "object"], mro := [.ref h2.objs.size, .type "object"], ns := ns, qualname := "cmp_to_key.<locals>.K" }, #[some (.ref B), none, some (.str "K" t3), some (.str "cmp_to_key.<locals>.K" tq), some (.builtin "object.__new__")]⟩) rfl (by kernel_rfl!)
  have hends : (("object.__new__" : String).endsWith ".__new__") = true := by kernel_rfl!
  unfold Bind.refreshMaker
  refine wpAny_bind (ts_slotAt T6 (v := some (.builtin "object.__new__")) rfl ?_)
  (repeat (first | ((with_reducible first | refine wpAny_of_eq KF.sub_tuple ?_ | refine wpAny_of_eq KF.sub_dict ?_ | refine wpAny_of_eq KF.sub_type ?_ | refine wpAny_of_eq KF.sub_list_str ?_ | refine wpAny_of_eq KF.ext_object ?_ | refine wpAny_of_eq KF.best_object ?_ | refine wpAny_of_eq KF.names_object ?_ | refine wpAny_of_eq KF.dict_object ?_ | refine wpAny_of_eq KF.weak_object ?_ | refine wpAny_of_eq KF.var_object ?_ | refine wpAny_of_eq KF.hook_type ?_ | refine wpAny_of_eq KF.lin_object ?_ | refine wpAny_of_eq KF.type_object ?_ | refine wpAny_of_eq KF.made_object ?_ | refine wpAny_of_eq (KF.note_object _) ?_ | refine wpAny_of_eq KF.turned_object ?_)) | (first | ((with_reducible show wpAny _ _ (Builtin.notOverATurnedClass _) _ _ _); (show wpAny _ _ (Builtin.notOverATurnedClass [Value.type "object"]) _ _ _); refine wpAny_of_eq KF.turned_object ?_) | ((with_reducible show wpAny _ _ (Builtin.extendedBase _) _ _ _); (show wpAny _ _ (Builtin.extendedBase [Value.type "object"]) _ _ _); refine wpAny_of_eq KF.ext_object ?_) | ((with_reducible show wpAny _ _ (Builtin.Slots.bestBase _) _ _ _); (show wpAny _ _ (Builtin.Slots.bestBase [Value.type "object"]) _ _ _); refine wpAny_of_eq KF.best_object ?_) | ((with_reducible show wpAny _ _ (Builtin.linearize _ _) _ _ _); (show wpAny _ _ (Builtin.linearize [Value.type "object"] mroOf) _ _ _); refine wpAny_of_eq KF.lin_object ?_)) | ((fail_if_success ((with_reducible first | show wpAny _ _ (nsGet _ _) _ _ _ | show wpAny _ _ (setSlotAt _ _ _) _ _ _ | show wpAny _ _ (slotAt _ _) _ _ _ | show wpAny _ _ (nsDel _ _) _ _ _ | show wpAny _ _ (nsSet _ _ _) _ _ _ | show wpAny _ _ (nsSetByValue _ _ _) _ _ _ | show wpAny _ _ (updateCls _ _) _ _ _ | show wpAny _ _ (Bind.refreshMaker _) _ _ _ | show wpAny _ _ (Sem.tryCatch _ _) _ _ _ | show wpAny _ _ (Builtin.Slots.install _ _ _ _) _ _ _ | show wpAny _ _ (List.anyM _ _) _ _ _ | show wpAny _ _ (dictEntries _) _ _ _))); wp_step)))
  refine ts_lookup T6 rfl rfl rfl (v := none) (y := some (.builtin "object.__new__")) (by rw [← hes]; kernel_rfl!) (by kernel_rfl!) ?_
  (repeat (first | ((with_reducible first | refine wpAny_of_eq KF.sub_tuple ?_ | refine wpAny_of_eq KF.sub_dict ?_ | refine wpAny_of_eq KF.sub_type ?_ | refine wpAny_of_eq KF.sub_list_str ?_ | refine wpAny_of_eq KF.ext_object ?_ | refine wpAny_of_eq KF.best_object ?_ | refine wpAny_of_eq KF.names_object ?_ | refine wpAny_of_eq KF.dict_object ?_ | refine wpAny_of_eq KF.weak_object ?_ | refine wpAny_of_eq KF.var_object ?_ | refine wpAny_of_eq KF.hook_type ?_ | refine wpAny_of_eq KF.lin_object ?_ | refine wpAny_of_eq KF.type_object ?_ | refine wpAny_of_eq KF.made_object ?_ | refine wpAny_of_eq (KF.note_object _) ?_ | refine wpAny_of_eq KF.turned_object ?_)) | (first | ((with_reducible show wpAny _ _ (Builtin.notOverATurnedClass _) _ _ _); (show wpAny _ _ (Builtin.notOverATurnedClass [Value.type "object"]) _ _ _); refine wpAny_of_eq KF.turned_object ?_) | ((with_reducible show wpAny _ _ (Builtin.extendedBase _) _ _ _); (show wpAny _ _ (Builtin.extendedBase [Value.type "object"]) _ _ _); refine wpAny_of_eq KF.ext_object ?_) | ((with_reducible show wpAny _ _ (Builtin.Slots.bestBase _) _ _ _); (show wpAny _ _ (Builtin.Slots.bestBase [Value.type "object"]) _ _ _); refine wpAny_of_eq KF.best_object ?_) | ((with_reducible show wpAny _ _ (Builtin.linearize _ _) _ _ _); (show wpAny _ _ (Builtin.linearize [Value.type "object"] mroOf) _ _ _); refine wpAny_of_eq KF.lin_object ?_)) | ((fail_if_success ((with_reducible first | show wpAny _ _ (nsGet _ _) _ _ _ | show wpAny _ _ (setSlotAt _ _ _) _ _ _ | show wpAny _ _ (slotAt _ _) _ _ _ | show wpAny _ _ (nsDel _ _) _ _ _ | show wpAny _ _ (nsSet _ _ _) _ _ _ | show wpAny _ _ (nsSetByValue _ _ _) _ _ _ | show wpAny _ _ (updateCls _ _) _ _ _ | show wpAny _ _ (Bind.refreshMaker _) _ _ _ | show wpAny _ _ (Sem.tryCatch _ _) _ _ _ | show wpAny _ _ (Builtin.Slots.install _ _ _ _) _ _ _ | show wpAny _ _ (List.anyM _ _) _ _ _ | show wpAny _ _ (dictEntries _) _ _ _))); wp_step)))
  skip
  unfold Builtin.Slots.install
  (repeat (first | ((with_reducible first | refine wpAny_of_eq KF.sub_tuple ?_ | refine wpAny_of_eq KF.sub_dict ?_ | refine wpAny_of_eq KF.sub_type ?_ | refine wpAny_of_eq KF.sub_list_str ?_ | refine wpAny_of_eq KF.ext_object ?_ | refine wpAny_of_eq KF.best_object ?_ | refine wpAny_of_eq KF.names_object ?_ | refine wpAny_of_eq KF.dict_object ?_ | refine wpAny_of_eq KF.weak_object ?_ | refine wpAny_of_eq KF.var_object ?_ | refine wpAny_of_eq KF.hook_type ?_ | refine wpAny_of_eq KF.lin_object ?_ | refine wpAny_of_eq KF.type_object ?_ | refine wpAny_of_eq KF.made_object ?_ | refine wpAny_of_eq (KF.note_object _) ?_ | refine wpAny_of_eq KF.turned_object ?_)) | (first | ((with_reducible show wpAny _ _ (Builtin.notOverATurnedClass _) _ _ _); (show wpAny _ _ (Builtin.notOverATurnedClass [Value.type "object"]) _ _ _); refine wpAny_of_eq KF.turned_object ?_) | ((with_reducible show wpAny _ _ (Builtin.extendedBase _) _ _ _); (show wpAny _ _ (Builtin.extendedBase [Value.type "object"]) _ _ _); refine wpAny_of_eq KF.ext_object ?_) | ((with_reducible show wpAny _ _ (Builtin.Slots.bestBase _) _ _ _); (show wpAny _ _ (Builtin.Slots.bestBase [Value.type "object"]) _ _ _); refine wpAny_of_eq KF.best_object ?_) | ((with_reducible show wpAny _ _ (Builtin.linearize _ _) _ _ _); (show wpAny _ _ (Builtin.linearize [Value.type "object"] mroOf) _ _ _); refine wpAny_of_eq KF.lin_object ?_)) | ((fail_if_success ((with_reducible first | show wpAny _ _ (nsGet _ _) _ _ _ | show wpAny _ _ (setSlotAt _ _ _) _ _ _ | show wpAny _ _ (slotAt _ _) _ _ _ | show wpAny _ _ (nsDel _ _) _ _ _ | show wpAny _ _ (nsSet _ _ _) _ _ _ | show wpAny _ _ (nsSetByValue _ _ _) _ _ _ | show wpAny _ _ (updateCls _ _) _ _ _ | show wpAny _ _ (Bind.refreshMaker _) _ _ _ | show wpAny _ _ (Sem.tryCatch _ _) _ _ _ | show wpAny _ _ (Builtin.Slots.install _ _ _ _) _ _ _ | show wpAny _ _ (List.anyM _ _) _ _ _ | show wpAny _ _ (dictEntries _) _ _ _))); wp_step)))
  refine ts_nsGet T6 (v := none) (by rw [← hes]; kernel_rfl!) ?_
  (repeat (first | ((with_reducible first | refine wpAny_of_eq KF.sub_tuple ?_ | refine wpAny_of_eq KF.sub_dict ?_ | refine wpAny_of_eq KF.sub_type ?_ | refine wpAny_of_eq KF.sub_list_str ?_ | refine wpAny_of_eq KF.ext_object ?_ | refine wpAny_of_eq KF.best_object ?_ | refine wpAny_of_eq KF.names_object ?_ | refine wpAny_of_eq KF.dict_object ?_ | refine wpAny_of_eq KF.weak_object ?_ | refine wpAny_of_eq KF.var_object ?_ | refine wpAny_of_eq KF.hook_type ?_ | refine wpAny_of_eq KF.lin_object ?_ | refine wpAny_of_eq KF.type_object ?_ | refine wpAny_of_eq KF.made_object ?_ | refine wpAny_of_eq (KF.note_object _) ?_ | refine wpAny_of_eq KF.turned_object ?_)) | (first | ((with_reducible show wpAny _ _ (Builtin.notOverATurnedClass _) _ _ _); (show wpAny _ _ (Builtin.notOverATurnedClass [Value.type "object"]) _ _ _); refine wpAny_of_eq KF.turned_object ?_) | ((with_reducible show wpAny _ _ (Builtin.extendedBase _) _ _ _); (show wpAny _ _ (Builtin.extendedBase [Value.type "object"]) _ _ _); refine wpAny_of_eq KF.ext_object ?_) | ((with_reducible show wpAny _ _ (Builtin.Slots.bestBase _) _ _ _); (show wpAny _ _ (Builtin.Slots.bestBase [Value.type "object"]) _ _ _); refine wpAny_of_eq KF.best_object ?_) | ((with_reducible show wpAny _ _ (Builtin.linearize _ _) _ _ _); (show wpAny _ _ (Builtin.linearize [Value.type "object"] mroOf) _ _ _); refine wpAny_of_eq KF.lin_object ?_)) | ((fail_if_success ((with_reducible first | show wpAny _ _ (nsGet _ _) _ _ _ | show wpAny _ _ (setSlotAt _ _ _) _ _ _ | show wpAny _ _ (slotAt _ _) _ _ _ | show wpAny _ _ (nsDel _ _) _ _ _ | show wpAny _ _ (nsSet _ _ _) _ _ _ | show wpAny _ _ (nsSetByValue _ _ _) _ _ _ | show wpAny _ _ (updateCls _ _) _ _ _ | show wpAny _ _ (Bind.refreshMaker _) _ _ _ | show wpAny _ _ (Sem.tryCatch _ _) _ _ _ | show wpAny _ _ (Builtin.Slots.install _ _ _ _) _ _ _ | show wpAny _ _ (List.anyM _ _) _ _ _ | show wpAny _ _ (dictEntries _) _ _ _))); wp_step)))
  generalize hes1 : (#[⟨i0, .str "__module__" k0, .str "cpy313.functools" tm⟩, ⟨i2, .str "__firstlineno__" k2, .int ln tl⟩, ⟨i3, .str "__slots__" k3, .ref SL⟩, ⟨i4, .str "__init__" k4, .ref f0⟩, ⟨i5, .str "__lt__" k5, .ref f1⟩, ⟨i6, .str "__gt__" k6, .ref f2⟩, ⟨i7, .str "__eq__" k7, .ref f3⟩, ⟨i8, .str "__le__" k8, .ref f4⟩, ⟨i9, .str "__ge__" k9, .ref f5⟩, ⟨i10, .str "__hash__" k10, .none⟩, ⟨i11, .str "__static_attributes__" k11, .ref ST⟩] : Array DictEntry) = es1
  replace T6 := T6.conv (on' := ⟨.type "dict", none, .dict es1 1, #[]⟩) (by rw [← hes, ← hes1]; kernel_rfl!) rfl
  have T7 := T6.pushAdd { cls := Value.type "member_descriptor", data := Data.fields #[Value.str (Str.ofString "obj") tk1, Value.ref h2.objs.size, Value.builtin "proto.slot", Value.builtin "proto.slot#set", .int 0 0] } rfl
  refine ts_nsSetV (T7 : TS _ (h8.push _) _ _ _ _) rfl (by rw [← hes1]; simp) (by rw [← hes1]; kernel_rfl!) (fun i k => by rw [← hes1]; kernel_rfl!) (fun h9 i12 k12 tk2 T8 => ?_)
  have kmd : hp.get? h8.objs.size = none := by
    cases q : hp.get? h8.objs.size with
    | none => rfl
    | some x => have := T6.keep _ _ q; rw [get?_size] at this; cases this
  generalize h8.objs.size = md at T8 kmd ⊢
  generalize hes2 : es1.push ⟨i12, .str "obj" k12, .ref md⟩ = es2
  replace T8 := T8.conv (on' := ⟨.type "dict", none, .dict es2 2, #[]⟩) (by rw [← hes2, ← hes1]; kernel_rfl!) rfl
  (repeat (first | ((with_reducible first | refine wpAny_of_eq KF.sub_tuple ?_ | refine wpAny_of_eq KF.sub_dict ?_ | refine wpAny_of_eq KF.sub_type ?_ | refine wpAny_of_eq KF.sub_list_str ?_ | refine wpAny_of_eq KF.ext_object ?_ | refine wpAny_of_eq KF.best_object ?_ | refine wpAny_of_eq KF.names_object ?_ | refine wpAny_of_eq KF.dict_object ?_ | refine wpAny_of_eq KF.weak_object ?_ | refine wpAny_of_eq KF.var_object ?_ | refine wpAny_of_eq KF.hook_type ?_ | refine wpAny_of_eq KF.lin_object ?_ | refine wpAny_of_eq KF.type_object ?_ | refine wpAny_of_eq KF.made_object ?_ | refine wpAny_of_eq (KF.note_object _) ?_ | refine wpAny_of_eq KF.turned_object ?_)) | (first | ((with_reducible show wpAny _ _ (Builtin.notOverATurnedClass _) _ _ _); (show wpAny _ _ (Builtin.notOverATurnedClass [Value.type "object"]) _ _ _); refine wpAny_of_eq KF.turned_object ?_) | ((with_reducible show wpAny _ _ (Builtin.extendedBase _) _ _ _); (show wpAny _ _ (Builtin.extendedBase [Value.type "object"]) _ _ _); refine wpAny_of_eq KF.ext_object ?_) | ((with_reducible show wpAny _ _ (Builtin.Slots.bestBase _) _ _ _); (show wpAny _ _ (Builtin.Slots.bestBase [Value.type "object"]) _ _ _); refine wpAny_of_eq KF.best_object ?_) | ((with_reducible show wpAny _ _ (Builtin.linearize _ _) _ _ _); (show wpAny _ _ (Builtin.linearize [Value.type "object"] mroOf) _ _ _); refine wpAny_of_eq KF.lin_object ?_)) | ((fail_if_success ((with_reducible first | show wpAny _ _ (nsGet _ _) _ _ _ | show wpAny _ _ (setSlotAt _ _ _) _ _ _ | show wpAny _ _ (slotAt _ _) _ _ _ | show wpAny _ _ (nsDel _ _) _ _ _ | show wpAny _ _ (nsSet _ _ _) _ _ _ | show wpAny _ _ (nsSetByValue _ _ _) _ _ _ | show wpAny _ _ (updateCls _ _) _ _ _ | show wpAny _ _ (Bind.refreshMaker _) _ _ _ | show wpAny _ _ (Sem.tryCatch _ _) _ _ _ | show wpAny _ _ (Builtin.Slots.install _ _ _ _) _ _ _ | show wpAny _ _ (List.anyM _ _) _ _ _ | show wpAny _ _ (dictEntries _) _ _ _))); wp_step)))
  refine ts_updateClsE T8 (by kernel_rfl!) (fun h10 T9 => ?_)
  replace T9 := T9.conv (on' := ⟨.type "dict", none, .dict es2 2, #[]⟩) (o' := ⟨Value.type "type", none, Data.cls { name := "K", bases := [.type "object"], mro := [.ref h2.objs.size, .type "object"], ns := ns, qualname := "cmp_to_key.<locals>.K", hasDict := false, slotNames := ["obj"] }, #[some (.ref B), none, some (.str "K" t3), some (.str "cmp_to_key.<locals>.K" tq), some (.builtin "object.__new__")]⟩) rfl (by kernel_rfl!)
  (repeat (first | ((with_reducible first | refine wpAny_of_eq KF.sub_tuple ?_ | refine wpAny_of_eq KF.sub_dict ?_ | refine wpAny_of_eq KF.sub_type ?_ | refine wpAny_of_eq KF.sub_list_str ?_ | refine wpAny_of_eq KF.ext_object ?_ | refine wpAny_of_eq KF.best_object ?_ | refine wpAny_of_eq KF.names_object ?_ | refine wpAny_of_eq KF.dict_object ?_ | refine wpAny_of_eq KF.weak_object ?_ | refine wpAny_of_eq KF.var_object ?_ | refine wpAny_of_eq KF.hook_type ?_ | refine wpAny_of_eq KF.lin_object ?_ | refine wpAny_of_eq KF.type_object ?_ | refine wpAny_of_eq KF.made_object ?_ | refine wpAny_of_eq (KF.note_object _) ?_ | refine wpAny_of_eq KF.turned_object ?_)) | (first | ((with_reducible show wpAny _ _ (Builtin.notOverATurnedClass _) _ _ _); (show wpAny _ _ (Builtin.notOverATurnedClass [Value.type "object"]) _ _ _); refine wpAny_of_eq KF.turned_object ?_) | ((with_reducible show wpAny _ _ (Builtin.extendedBase _) _ _ _); (show wpAny _ _ (Builtin.extendedBase [Value.type "object"]) _ _ _); refine wpAny_of_eq KF.ext_object ?_) | ((with_reducible show wpAny _ _ (Builtin.Slots.bestBase _) _ _ _); (show wpAny _ _ (Builtin.Slots.bestBase [Value.type "object"]) _ _ _); refine wpAny_of_eq KF.best_object ?_) | ((with_reducible show wpAny _ _ (Builtin.linearize _ _) _ _ _); (show wpAny _ _ (Builtin.linearize [Value.type "object"] mroOf) _ _ _); refine wpAny_of_eq KF.lin_object ?_)) | ((fail_if_success ((with_reducible first | show wpAny _ _ (nsGet _ _) _ _ _ | show wpAny _ _ (setSlotAt _ _ _) _ _ _ | show wpAny _ _ (slotAt _ _) _ _ _ | show wpAny _ _ (nsDel _ _) _ _ _ | show wpAny _ _ (nsSet _ _ _) _ _ _ | show wpAny _ _ (nsSetByValue _ _ _) _ _ _ | show wpAny _ _ (updateCls _ _) _ _ _ | show wpAny _ _ (Bind.refreshMaker _) _ _ _ | show wpAny _ _ (Sem.tryCatch _ _) _ _ _ | show wpAny _ _ (Builtin.Slots.install _ _ _ _) _ _ _ | show wpAny _ _ (List.anyM _ _) _ _ _ | show wpAny _ _ (dictEntries _) _ _ _))); wp_step)))
  refine ts_setSlot T9 (by decide) rfl (fun h11 T10 => ?_)
  replace T10 := T10.conv (on' := ⟨.type "dict", none, .dict es2 2, #[]⟩) (o' := ⟨Value.type "type", none, Data.cls { name := "K", bases := [.type "object"], mro := [.ref h2.objs.size, .type "object"], ns := ns, qualname := "cmp_to_key.<locals>.K", hasDict := false, slotNames := ["obj"] }, #[some (.ref B), none, some (.str "K" t3), some (.str "cmp_to_key.<locals>.K" tq), some (.builtin "object.__new__"), some (.bool false)]⟩) rfl (by kernel_rfl!)
  (repeat (first | ((with_reducible first | refine wpAny_of_eq KF.sub_tuple ?_ | refine wpAny_of_eq KF.sub_dict ?_ | refine wpAny_of_eq KF.sub_type ?_ | refine wpAny_of_eq KF.sub_list_str ?_ | refine wpAny_of_eq KF.ext_object ?_ | refine wpAny_of_eq KF.best_object ?_ | refine wpAny_of_eq KF.names_object ?_ | refine wpAny_of_eq KF.dict_object ?_ | refine wpAny_of_eq KF.weak_object ?_ | refine wpAny_of_eq KF.var_object ?_ | refine wpAny_of_eq KF.hook_type ?_ | refine wpAny_of_eq KF.lin_object ?_ | refine wpAny_of_eq KF.type_object ?_ | refine wpAny_of_eq KF.made_object ?_ | refine wpAny_of_eq (KF.note_object _) ?_ | refine wpAny_of_eq KF.turned_object ?_)) | (first | ((with_reducible show wpAny _ _ (Builtin.notOverATurnedClass _) _ _ _); (show wpAny _ _ (Builtin.notOverATurnedClass [Value.type "object"]) _ _ _); refine wpAny_of_eq KF.turned_object ?_) | ((with_reducible show wpAny _ _ (Builtin.extendedBase _) _ _ _); (show wpAny _ _ (Builtin.extendedBase [Value.type "object"]) _ _ _); refine wpAny_of_eq KF.ext_object ?_) | ((with_reducible show wpAny _ _ (Builtin.Slots.bestBase _) _ _ _); (show wpAny _ _ (Builtin.Slots.bestBase [Value.type "object"]) _ _ _); refine wpAny_of_eq KF.best_object ?_) | ((with_reducible show wpAny _ _ (Builtin.linearize _ _) _ _ _); (show wpAny _ _ (Builtin.linearize [Value.type "object"] mroOf) _ _ _); refine wpAny_of_eq KF.lin_object ?_)) | ((fail_if_success ((with_reducible first | show wpAny _ _ (nsGet _ _) _ _ _ | show wpAny _ _ (setSlotAt _ _ _) _ _ _ | show wpAny _ _ (slotAt _ _) _ _ _ | show wpAny _ _ (nsDel _ _) _ _ _ | show wpAny _ _ (nsSet _ _ _) _ _ _ | show wpAny _ _ (nsSetByValue _ _ _) _ _ _ | show wpAny _ _ (updateCls _ _) _ _ _ | show wpAny _ _ (Bind.refreshMaker _) _ _ _ | show wpAny _ _ (Sem.tryCatch _ _) _ _ _ | show wpAny _ _ (Builtin.Slots.install _ _ _ _) _ _ _ | show wpAny _ _ (List.anyM _ _) _ _ _ | show wpAny _ _ (dictEntries _) _ _ _))); wp_step)))
  refine ts_nsGet T10 (v := none) (by rw [← hes2, ← hes1]; kernel_rfl!) ?_
  (repeat (first | ((with_reducible first | refine wpAny_of_eq KF.sub_tuple ?_ | refine wpAny_of_eq KF.sub_dict ?_ | refine wpAny_of_eq KF.sub_type ?_ | refine wpAny_of_eq KF.sub_list_str ?_ | refine wpAny_of_eq KF.ext_object ?_ | refine wpAny_of_eq KF.best_object ?_ | refine wpAny_of_eq KF.names_object ?_ | refine wpAny_of_eq KF.dict_object ?_ | refine wpAny_of_eq KF.weak_object ?_ | refine wpAny_of_eq KF.var_object ?_ | refine wpAny_of_eq KF.hook_type ?_ | refine wpAny_of_eq KF.lin_object ?_ | refine wpAny_of_eq KF.type_object ?_ | refine wpAny_of_eq KF.made_object ?_ | refine wpAny_of_eq (KF.note_object _) ?_ | refine wpAny_of_eq KF.turned_object ?_)) | (first | ((with_reducible show wpAny _ _ (Builtin.notOverATurnedClass _) _ _ _); (show wpAny _ _ (Builtin.notOverATurnedClass [Value.type "object"]) _ _ _); refine wpAny_of_eq KF.turned_object ?_) | ((with_reducible show wpAny _ _ (Builtin.extendedBase _) _ _ _); (show wpAny _ _ (Builtin.extendedBase [Value.type "object"]) _ _ _); refine wpAny_of_eq KF.ext_object ?_) | ((with_reducible show wpAny _ _ (Builtin.Slots.bestBase _) _ _ _); (show wpAny _ _ (Builtin.Slots.bestBase [Value.type "object"]) _ _ _); refine wpAny_of_eq KF.best_object ?_) | ((with_reducible show wpAny _ _ (Builtin.linearize _ _) _ _ _); (show wpAny _ _ (Builtin.linearize [Value.type "object"] mroOf) _ _ _); refine wpAny_of_eq KF.lin_object ?_)) | ((fail_if_success ((with_reducible first | show wpAny _ _ (nsGet _ _) _ _ _ | show wpAny _ _ (setSlotAt _ _ _) _ _ _ | show wpAny _ _ (slotAt _ _) _ _ _ | show wpAny _ _ (nsDel _ _) _ _ _ | show wpAny _ _ (nsSet _ _ _) _ _ _ | show wpAny _ _ (nsSetByValue _ _ _) _ _ _ | show wpAny _ _ (updateCls _ _) _ _ _ | show wpAny _ _ (Bind.refreshMaker _) _ _ _ | show wpAny _ _ (Sem.tryCatch _ _) _ _ _ | show wpAny _ _ (Builtin.Slots.install _ _ _ _) _ _ _ | show wpAny _ _ (List.anyM _ _) _ _ _ | show wpAny _ _ (dictEntries _) _ _ _))); wp_step)))
  refine ts_nsSet T10 rfl (by rw [← hes2, ← hes1]; kernel_rfl!) (fun i k => by rw [← hes2, ← hes1]; kernel_rfl!) (fun h12 i13 k13 tk3 T11 => ?_)
  generalize hes3 : es2.push ⟨i13, .str "__doc__" k13, .none⟩ = es3
  replace T11 := T11.conv (on' := ⟨.type "dict", none, .dict es3 3, #[]⟩) (by rw [← hes3, ← hes2, ← hes1]; kernel_rfl!) rfl
  (repeat (first | ((with_reducible first | refine wpAny_of_eq KF.sub_tuple ?_ | refine wpAny_of_eq KF.sub_dict ?_ | refine wpAny_of_eq KF.sub_type ?_ | refine wpAny_of_eq KF.sub_list_str ?_ | refine wpAny_of_eq KF.ext_object ?_ | refine wpAny_of_eq KF.best_object ?_ | refine wpAny_of_eq KF.names_object ?_ | refine wpAny_of_eq KF.dict_object ?_ | refine wpAny_of_eq KF.weak_object ?_ | refine wpAny_of_eq KF.var_object ?_ | refine wpAny_of_eq KF.hook_type ?_ | refine wpAny_of_eq KF.lin_object ?_ | refine wpAny_of_eq KF.type_object ?_ | refine wpAny_of_eq KF.made_object ?_ | refine wpAny_of_eq (KF.note_object _) ?_ | refine wpAny_of_eq KF.turned_object ?_)) | (first | ((with_reducible show wpAny _ _ (Builtin.notOverATurnedClass _) _ _ _); (show wpAny _ _ (Builtin.notOverATurnedClass [Value.type "object"]) _ _ _); refine wpAny_of_eq KF.turned_object ?_) | ((with_reducible show wpAny _ _ (Builtin.extendedBase _) _ _ _); (show wpAny _ _ (Builtin.extendedBase [Value.type "object"]) _ _ _); refine wpAny_of_eq KF.ext_object ?_) | ((with_reducible show wpAny _ _ (Builtin.Slots.bestBase _) _ _ _); (show wpAny _ _ (Builtin.Slots.bestBase [Value.type "object"]) _ _ _); refine wpAny_of_eq KF.best_object ?_) | ((with_reducible show wpAny _ _ (Builtin.linearize _ _) _ _ _); (show wpAny _ _ (Builtin.linearize [Value.type "object"] mroOf) _ _ _); refine wpAny_of_eq KF.lin_object ?_)) | ((fail_if_success ((with_reducible first | show wpAny _ _ (nsGet _ _) _ _ _ | show wpAny _ _ (setSlotAt _ _ _) _ _ _ | show wpAny _ _ (slotAt _ _) _ _ _ | show wpAny _ _ (nsDel _ _) _ _ _ | show wpAny _ _ (nsSet _ _ _) _ _ _ | show wpAny _ _ (nsSetByValue _ _ _) _ _ _ | show wpAny _ _ (updateCls _ _) _ _ _ | show wpAny _ _ (Bind.refreshMaker _) _ _ _ | show wpAny _ _ (Sem.tryCatch _ _) _ _ _ | show wpAny _ _ (Builtin.Slots.install _ _ _ _) _ _ _ | show wpAny _ _ (List.anyM _ _) _ _ _ | show wpAny _ _ (dictEntries _) _ _ _))); wp_step)))
  refine ts_nsGet T11 (v := some (.ref f3)) (by rw [← hes3, ← hes2, ← hes1]; kernel_rfl!) ?_
  (repeat (first | ((with_reducible first | refine wpAny_of_eq KF.sub_tuple ?_ | refine wpAny_of_eq KF.sub_dict ?_ | refine wpAny_of_eq KF.sub_type ?_ | refine wpAny_of_eq KF.sub_list_str ?_ | refine wpAny_of_eq KF.ext_object ?_ | refine wpAny_of_eq KF.best_object ?_ | refine wpAny_of_eq KF.names_object ?_ | refine wpAny_of_eq KF.dict_object ?_ | refine wpAny_of_eq KF.weak_object ?_ | refine wpAny_of_eq KF.var_object ?_ | refine wpAny_of_eq KF.hook_type ?_ | refine wpAny_of_eq KF.lin_object ?_ | refine wpAny_of_eq KF.type_object ?_ | refine wpAny_of_eq KF.made_object ?_ | refine wpAny_of_eq (KF.note_object _) ?_ | refine wpAny_of_eq KF.turned_object ?_)) | (first | ((with_reducible show wpAny _ _ (Builtin.notOverATurnedClass _) _ _ _); (show wpAny _ _ (Builtin.notOverATurnedClass [Value.type "object"]) _ _ _); refine wpAny_of_eq KF.turned_object ?_) | ((with_reducible show wpAny _ _ (Builtin.extendedBase _) _ _ _); (show wpAny _ _ (Builtin.extendedBase [Value.type "object"]) _ _ _); refine wpAny_of_eq KF.ext_object ?_) | ((with_reducible show wpAny _ _ (Builtin.Slots.bestBase _) _ _ _); (show wpAny _ _ (Builtin.Slots.bestBase [Value.type "object"]) _ _ _); refine wpAny_of_eq KF.best_object ?_) | ((with_reducible show wpAny _ _ (Builtin.linearize _ _) _ _ _); (show wpAny _ _ (Builtin.linearize [Value.type "object"] mroOf) _ _ _); refine wpAny_of_eq KF.lin_object ?_)) | ((fail_if_success ((with_reducible first | show wpAny _ _ (nsGet _ _) _ _ _ | show wpAny _ _ (setSlotAt _ _ _) _ _ _ | show wpAny _ _ (slotAt _ _) _ _ _ | show wpAny _ _ (nsDel _ _) _ _ _ | show wpAny _ _ (nsSet _ _ _) _ _ _ | show wpAny _ _ (nsSetByValue _ _ _) _ _ _ | show wpAny _ _ (updateCls _ _) _ _ _ | show wpAny _ _ (Bind.refreshMaker _) _ _ _ | show wpAny _ _ (Sem.tryCatch _ _) _ _ _ | show wpAny _ _ (Builtin.Slots.install _ _ _ _) _ _ _ | show wpAny _ _ (List.anyM _ _) _ _ _ | show wpAny _ _ (dictEntries _) _ _ _))); wp_step)))
  refine ts_nsGet T11 (v := some .none) (by rw [← hes3, ← hes2, ← hes1]; kernel_rfl!) ?_
  (repeat (first | ((with_reducible first | refine wpAny_of_eq KF.sub_tuple ?_ | refine wpAny_of_eq KF.sub_dict ?_ | refine wpAny_of_eq KF.sub_type ?_ | refine wpAny_of_eq KF.sub_list_str ?_ | refine wpAny_of_eq KF.ext_object ?_ | refine wpAny_of_eq KF.best_object ?_ | refine wpAny_of_eq KF.names_object ?_ | refine wpAny_of_eq KF.dict_object ?_ | refine wpAny_of_eq KF.weak_object ?_ | refine wpAny_of_eq KF.var_object ?_ | refine wpAny_of_eq KF.hook_type ?_ | refine wpAny_of_eq KF.lin_object ?_ | refine wpAny_of_eq KF.type_object ?_ | refine wpAny_of_eq KF.made_object ?_ | refine wpAny_of_eq (KF.note_object _) ?_ | refine wpAny_of_eq KF.turned_object ?_)) | (first | ((with_reducible show wpAny _ _ (Builtin.notOverATurnedClass _) _ _ _); (show wpAny _ _ (Builtin.notOverATurnedClass [Value.type "object"]) _ _ _); refine wpAny_of_eq KF.turned_object ?_) | ((with_reducible show wpAny _ _ (Builtin.extendedBase _) _ _ _); (show wpAny _ _ (Builtin.extendedBase [Value.type "object"]) _ _ _); refine wpAny_of_eq KF.ext_object ?_) | ((with_reducible show wpAny _ _ (Builtin.Slots.bestBase _) _ _ _); (show wpAny _ _ (Builtin.Slots.bestBase [Value.type "object"]) _ _ _); refine wpAny_of_eq KF.best_object ?_) | ((with_reducible show wpAny _ _ (Builtin.linearize _ _) _ _ _); (show wpAny _ _ (Builtin.linearize [Value.type "object"] mroOf) _ _ _); refine wpAny_of_eq KF.lin_object ?_)) | ((fail_if_success ((with_reducible first | show wpAny _ _ (nsGet _ _) _ _ _ | show wpAny _ _ (setSlotAt _ _ _) _ _ _ | show wpAny _ _ (slotAt _ _) _ _ _ | show wpAny _ _ (nsDel _ _) _ _ _ | show wpAny _ _ (nsSet _ _ _) _ _ _ | show wpAny _ _ (nsSetByValue _ _ _) _ _ _ | show wpAny _ _ (updateCls _ _) _ _ _ | show wpAny _ _ (Bind.refreshMaker _) _ _ _ | show wpAny _ _ (Sem.tryCatch _ _) _ _ _ | show wpAny _ _ (Builtin.Slots.install _ _ _ _) _ _ _ | show wpAny _ _ (List.anyM _ _) _ _ _ | show wpAny _ _ (dictEntries _) _ _ _))); wp_step)))
  have hes3' : es3 = #[⟨i0, .str "__module__" k0, .str "cpy313.functools" tm⟩, ⟨i2, .str "__firstlineno__" k2, .int ln tl⟩, ⟨i3, .str "__slots__" k3, .ref SL⟩, ⟨i4, .str "__init__" k4, .ref f0⟩, ⟨i5, .str "__lt__" k5, .ref f1⟩, ⟨i6, .str "__gt__" k6, .ref f2⟩, ⟨i7, .str "__eq__" k7, .ref f3⟩, ⟨i8, .str "__le__" k8, .ref f4⟩, ⟨i9, .str "__ge__" k9, .ref f5⟩, ⟨i10, .str "__hash__" k10, .none⟩, ⟨i11, .str "__static_attributes__" k11, .ref ST⟩, ⟨i12, .str "obj" k12, .ref md⟩, ⟨i13, .str "__doc__" k13, .none⟩] := by rw [← hes3, ← hes2, ← hes1]; rfl
  have kp12 : ∀ b x, hp.get? b = some x → h12.get? b = some x := fun b x e => T11.keep b x (Fz.le_add kmd b x e)
  have emd : h12.get? md = some _ := T11.keep md _ (Fz.add_self ..)
  have hne1 : md ≠ ns := fun q => by have := T11.fns; rw [← q, Fz.add_self] at this; cases this
  have hne2 : md ≠ h2.objs.size := fun q => by have := T11.fa; rw [← q, Fz.add_self] at this; cases this
  have mute : ∀ e ∈ es3.toList, Mute h12 e := by
    have hf' : ∀ f ∈ [f0, f1, f2, f3, f4, f5], ∃ o, h12.get? f = some o ∧ o.cls = .type "function" := fun f hf => by obtain ⟨o, h1, h2⟩ := hF f hf; exact ⟨o, kp12 _ _ h1, h2⟩
    obtain ⟨oST, hST1, hST2⟩ := hST
    rw [hes3']
    exact allC .str (allC .int (allC (.ref KF.set_list ⟨_, kp12 _ _ hSL, rfl⟩) (allC (.ref KF.set_function (hf' _ (.head _))) (allC (.ref KF.set_function (hf' _ (.tail _ (.head _)))) (allC (.ref KF.set_function (hf' _ (.tail _ (.tail _ (.head _))))) (allC (.ref KF.set_function (hf' _ (.tail _ (.tail _ (.tail _ (.head _)))))) (allC (.ref KF.set_function (hf' _ (.tail _ (.tail _ (.tail _ (.tail _ (.head _))))))) (allC (.ref KF.set_function (hf' _ (.tail _ (.tail _ (.tail _ (.tail _ (.tail _ (.head _)))))))) (allC .none (allC (.ref KF.set_tuple ⟨_, kp12 _ _ hST1, hST2⟩) (allC (.ref KF.set_member ⟨_, emd, rfl⟩) (allC .none (fun _ h => nomatch h)))))))))))))
  refine wpAny_tryCatch (wpAny_holding ?_)
  repeat (first | ((fail_if_success (with_reducible show wpAny _ _ (dictEntries _) _ _ _)); wp_step))
  refine wpAny_dictEntries T11.nsAt rfl ?_
  skip
  refine wpAny_bind (wpAny_forIn_same (fun e he => ?_) ?_)
  · obtain ⟨n, t, T, hk, _⟩ := mute e he
    rw [hk]
    exact wpAny_bind (wpAny_pure (wpAny_pure ⟨rfl, rfl⟩))
  repeat (first | ((fail_if_success (with_reducible show wpAny _ _ (dictEntries _) _ _ _)); wp_step))
  refine wpAny_dictEntries T11.nsAt rfl ?_
  refine wpAny_bind (wpAny_forIn_same (fun e he => ?_) ?_)
  · obtain ⟨n, t, T, hk, hl, hlook, hT⟩ := mute e he
    rw [if_neg (by rw [hl]; decide)]
    exact wpAny_bind (wpAny_specialOf (hT _ rfl) hlook (wpAny_pure ⟨rfl, rfl⟩))
  refine wpAny_bind (wpAny_mono (hA.go (call_super (s := ⟨h12, g, d, _, os⟩) T11.cls)) (fun v s' q => ?_) fun _ _ z => z)
  obtain ⟨h13, t13, rfl, hk13, u, rfl, hu⟩ := q
  refine wpAny_bind (wpAny_holding (get_init_sub hA1 (hk13 _ _ T11.cls) hu ?_ (fun h14 t14 bm hk14 hbm => ?_)))
  · obtain ⟨oS, hS1, hS2⟩ := hS; exact ⟨oS, hk13 _ _ (kp12 _ _ hS1), hS2⟩
  refine wpAny_bind (wpAny_mono (hA.go (call_init_sub (s := ⟨h14, g, d, t14, os⟩) (hk14 _ _ (hk13 _ _ T11.cls)) hbm)) (fun v s' q => ?_) fun _ _ z => z)
  obtain ⟨h15, t15, rfl, hk15, _⟩ := q
  repeat wp_step
  have kk : ∀ b o, h12.get? b = some o → h15.get? b = some o := fun b o e => hk15 _ _ (hk14 _ _ (hk13 _ _ e))
  exact hQ h15 t15 h2.objs.size ns md i12 k12 i13 k13 (fun b o e => kk _ _ (kp12 _ _ e)) fa fns kmd hne1 hne2 T11.ne (kk _ _ T11.cls) (hes3' ▸ kk _ _ T11.nsAt) ⟨_, kk _ _ emd⟩
end Mq
set_option tactic.hygienic false
namespace Mq
open PySem PySem.Spec PySem.Calls PyProof.Rows PySem.W PySem.W.X
variable {prog : Program} {w : World}
theorem kf_mro_type : mroOf (.type "type") = pure [.type "type", .type "object"] := by rw [mroOf_type]; kernel_rfl
theorem kf_made_type : Bind.madeBy (.type "type") = pure (some "type.__new__") := by kernel_rfl!
theorem kf_plain_new : plainId "type.__new__" = true := by decide +kernel
theorem kf_entry_new : entryFor table "type.__new__" = some Builtin.«type.__new__» := entryFor_of_fast (by kernel_rfl)
theorem kf_check_new (t3 : Tok) (B N : Addr) : checkBuiltinCall "type.__new__" ⟨[.type "type", .str "K" t3, .ref B, .ref N], []⟩ = pure () := by kernel_rfl!
theorem kf_slot_init : PySem.Slot "type" "__init__" "type.__init__" := .of (owner := "type") (n := "__init__") (by rw [typeLookup_type, builtinLookup_eq_fast]; kernel_rfl) (by decide +kernel) (by decide +kernel) (by decide +kernel)
    (by first | exact .inl (by decide +kernel) | exact .inr (by decide +kernel)) (by rw [isSubtype_type]; kernel_rfl)
theorem kf_entry_init : entryFor table "type.__init__" = some Builtin.«type.__init__» := entryFor_of_fast (by kernel_rfl)
theorem kf_args_init (o a b c : Value) : argsOk "type.__init__" ⟨[o, a, b, c], []⟩ := by unfold argsOk; kernel_rfl
theorem kf_can : ((Manifest.find? "type").bind (·.mro.findSome? fun t => (Manifest.find? t).bind fun b => if b.noNew then some true else if b.attrs.any (·.1 == "__new__") then some false else none)).getD false = false := by decide +kernel
theorem kf_check_type (t3 : Tok) (B N : Addr) : checkTypeCall "type" ⟨[.str "K" t3, .ref B, .ref N], []⟩ = pure () := by kernel_rfl!
theorem type_call {A : Around} {t3 : Tok} {B N : Addr} {s : Shared} {Q Q₁ : Value → Shared → Prop} {E : Value → Shared → Prop}
    (hnew : wpAny (model prog w) A.in1.in1 (Builtin.«type.__new__» ⟨[.type "type", .str "K" t3, .ref B, .ref N], []⟩) (fun fin s' => match fin with | .done (.ret v) => Q₁ v s' | _ => False) (fun _ _ => False) s)
    (hnext : ∀ v s', Q₁ v s' → s'.TypeIs v "type" ∧ Q v s') :
    wpAny (model prog w) A (call (.type "type") [.str "K" t3, .ref B, .ref N]) Q E s := by
  have hmro := kf_mro_type
  have hmade := kf_made_type
  have hsub := KF.sub_type
  have h2 := kf_can
  have h1 : (Value.type "type" == Value.type "type") = true := by decide +kernel
  refine wpAny_call (codeAny_of_tree ?_)
  show wpAny _ _ (callAny (.type "type") _) _ _ _
  refine wpAny_pure ⟨Code.quiet_builtin _ (by decide +kernel), codeAny_builtin F.entry_type_call ?_⟩
  rw [Around.under_plain (weight_type_call_type "type" _ []) rfl]
  repeat (any_goals (first | assumption | (with_reducible refine wpAny_of_eq (kf_check_type _ _ _) ?_) | wp_step))
  refine codeAny_mono (R := fun r s' => ∃ v, r = .ok (.ret v) ∧ Q₁ v s') (codeAny_call_builtin kf_plain_new kf_entry_new (wpAny_of_eq (kf_check_new _ _ _) (wpAny_mono hnew (fun fin s' q => ?_) fun _ _ z => z.elim))) (fun r s₁ hr => ?_)
  · cases fin with
    | done f =>
      cases f with
      | ret v => exact ⟨v, rfl, q⟩
      | _ => exact q.elim
    | again c => exact q.elim
  obtain ⟨v, rfl, hq⟩ := hr
  obtain ⟨hT, hQ⟩ := hnext v s₁ hq
  dsimp only
  refine wpAny_bind (wpAny_isInstance hT KF.sub_type ?_)
  simp only [Bool.not_true, Bool.false_eq_true, if_false]
  refine wpAny_bind (wpAny_holding (wpAny_callSpecial?_slot hT kf_slot_init (wpAny_call_entry kf_slot_init hT kf_entry_init ?_ (kf_args_init _ _ _ _))))
  unfold Builtin.«type.__init__»
  repeat wp_step
  refine ⟨_, rfl, ?_⟩
  have e9 : (Value.none != Value.none) = false := by decide +kernel
  simp only [e9, Bool.false_eq_true, if_false]
  repeat wp_step
  exact hQ
theorem type_call2 {A : Around} {t3 : Tok} {B N : Addr} {s : Shared} {Q : Value → Shared → Prop} {E : Value → Shared → Prop}
    (hnew : wpAny (model prog w) A.in1.in1 (Builtin.«type.__new__» ⟨[.type "type", .str "K" t3, .ref B, .ref N], []⟩) (fun fin s' => match fin with | .done (.ret v) => s'.TypeIs v "type" ∧ Q v s' | _ => False) (fun _ _ => False) s) :
    wpAny (model prog w) A (call (.type "type") [.str "K" t3, .ref B, .ref N]) Q E s := type_call hnew fun _ _ q => q
end Mq
set_option tactic.hygienic false
namespace Mq
open PySem PySem.Spec PySem.Calls PyProof.Rows PySem.W PySem.W.X
section
variable {prog : Program} {w : World} {A : Around} {E : Value → Shared → Prop} {s : Shared}
/-- the same with nothing taken over -/
noncomputable def fd0 (name qualname : Str) (params : Arguments) (body : List Stmt) (scope : Scope) (pm code : Value) : FuncData :=
  { name, qualname, params, body := .stmts body, scope, globals := mainGlobals, closure := [], closureTuple := .none, defaults := .none, kwdefaults := .none, annotations := none, pyModule := pm, code, builtins := builtinsNs }
theorem wpAny_makeC0 {name qualname : Str} {params : Arguments} {body : List Stmt} {scope : Scope} {env : Env} {mg : Str → Option Value} {c Pl : Addr} {ps : Array Value} {pos : Pos} {firstLine : Nat} {Q : Value → Shared → Prop}
    (hkw : params.kwonlyargs = []) (hclos : closureFor scope env = pure []) (hdoc : docOf body = none) (hg : s.heap.Ns env.globals mg) (hgl : env.globals = mainGlobals) (hcode : env.code = .ref c) (hok : s.heap.IsCode c Pl ps) (htab : s.heap.TableAt c Pl ps)
    (hnf : codeAmong pos ps.toList = none) (hgP : env.globals ≠ Pl) (hb : s.heap.BuiltinsAt mg Pl)
    (h : ∀ (c' : Addr) (h' : Heap) (tk : Nat), (∀ b o, b ≠ Pl → s.heap.get? b = some o → h'.get? b = some o) → s.heap.objs.size ≤ c' → s.heap.objs.size ≤ h'.objs.size → h'.IsCode c Pl (ps ++ #[rawInt pos.line, rawInt pos.col, .ref c']) → h'.TableAt c Pl (ps ++ #[rawInt pos.line, rawInt pos.col, .ref c']) → h'.CodeRec (.ref c') qualname → (∃ P', h'.TableAt c' P' #[]) →
      Q (.ref h'.objs.size) { s with heap := h'.push { cls := .type "function", data := .func (fd0 name qualname params body scope ((mg "__name__").getD .none) (.ref c')) }, toks := tk }) :
    wpAny (model prog w) A (makeFunction name qualname params (.stmts body) scope env [] [] [] pos firstLine) Q E s := by
  obtain ⟨bm, o, hbm, hne0, _, hneP, hbo, hcls, hdict, hdata⟩ := hb
  rw [makeFunction_eq, hkw]
  refine wpAny_bind (wpAny_pure (wpAny_bind (wpAny_pure (wpAny_bind (wpAny_pure ?_)))))
  simp only [makeTail, hclos, pure_bind, List.isEmpty_nil, if_true]
  refine wpAny_bind (wpAny_functionCodeX hcode hok htab hnf fun c' h' tk hx hge hlt hok' hrec htab' htb => ?_)
  have keep : ∀ b o, b ≠ Pl → s.heap.get? b = some o → h'.get? b = some o := fun b o hb e => hx b o hb e
  have hg' : h'.Ns env.globals mg := by
    obtain ⟨og, es, ep, hog, r⟩ := hg
    exact ⟨og, es, ep, keep _ _ hgP hog, r⟩
  refine wpAny_bind (wpAny_builtinsFor hg' hbm hne0 (keep _ _ hneP hbo) hcls hdict hdata ?_)
  refine wpAny_bind (wpAny_nsGet hg' ?_)
  simp only [hdoc]
  rw [hgl]
  have hsz : s.heap.objs.size ≤ h'.objs.size := Nat.le_of_lt (Nat.lt_of_le_of_lt hge hlt)
  obtain ⟨P', _, _, hP'⟩ := htb
  exact wpAny_bind (wpAny_pure (wpAny_newObj_type (h c' h' tk keep hge hsz hok' htab' hrec ⟨P', hP'⟩) (by size_fits)))
/-- the class's code -/
theorem wpAny_classCodeX {env : Env} {c P : Addr} {ps : Array Value} {pos : Pos} {firstLine : Nat} {name qualname : Str} {scope : Scope}
    {Q : Value → Shared → Prop} (hc : env.code = .ref c) (hok : s.heap.IsCode c P ps) (htab : s.heap.TableAt c P ps) (hnf : codeAmong pos ps.toList = none)
    (hQ : ∀ c' h' tk P', Heap.ExtBut P s.heap h' → s.heap.objs.size ≤ c' → s.heap.objs.size ≤ P' → h'.TableAt c P (ps ++ #[rawInt pos.line, rawInt pos.col, .ref c']) → h'.CodeRec (.ref c') qualname → h'.IsCode c' P' #[] → h'.TableAt c' P' #[] →
      Q (.ref c') { s with heap := h', toks := tk }) :
    wpAny (model prog w) A (classCode env pos firstLine name qualname scope) Q E s := by
  obtain ⟨o, vs, file, tf, flags, tg, inF, text, tt, op, ho, hd, h11, h2, h7, h9, h10, hop, hpd, htr, hne⟩ := id hok
  unfold classCode codeAt
  rw [hc, if_neg (show ¬ ((Value.ref c == Value.none) = true) from Bool.false_ne_true)]
  refine wpAny_bind (wpAny_fieldsOf ho hd ?_)
  rw [h11]
  refine wpAny_bind (wpAny_fieldsOf hop hpd ?_)
  rw [hnf, h2, h7, h9, h10]
  refine wpAny_bind (wpAny_newCodeX fun c' P' h' tk hk hc' hP' hcode' htab' hrec' => ?_)
  have hop' := hk _ _ hop
  refine wpAny_bind (wpAny_updateFieldsOfTheText hop' hpd ?_)
  have hnew : (Obj.mapFields (fun vs => if (codeAmong pos vs.toList).isSome = true then vs else vs ++ #[rawInt pos.line, rawInt pos.col, .ref c']) op).data =
      .fields (ps ++ #[rawInt pos.line, rawInt pos.col, .ref c']) := by
    rw [Obj.data_mapFields hpd, hnf]; rfl
  have hget := Heap.get?_update_self (h := h') (fun o => Obj.mapFields (fun vs => if (codeAmong pos vs.toList).isSome = true then vs else
    vs ++ #[rawInt pos.line, rawInt pos.col, .ref c']) o) hop' (Obj.isFreed_of_fields hnew)
  refine wpAny_bind (wpAny_fieldsOf hget hnew ?_)
  have hl : (ps ++ #[rawInt pos.line, rawInt pos.col, Value.ref c']).toList = ps.toList ++ [rawInt pos.line, rawInt pos.col, .ref c'] := by simp
  rw [hl, codeAmong_snoc _ htr hnf]
  have hcP : c' ≠ P := Nat.ne_of_gt (Nat.lt_of_lt_of_le (Heap.lt_size hop) hc')
  have hP'P : P' ≠ P := Nat.ne_of_gt (Nat.lt_of_lt_of_le (Heap.lt_size hop) hP')
  have sb := (Heap.SameBut.update h' P (fun o => Obj.mapFields (fun vs => if (codeAmong pos vs.toList).isSome = true then vs else vs ++ #[rawInt pos.line, rawInt pos.col, .ref c']) o)).extBut
  refine wpAny_pure (hQ _ _ _ P' (fun b o' hb e => (sb b o' hb (hk b o' e))) hc' hP' ?_ ?_ ?_ ?_)
  · obtain ⟨⟨oc, vc, hoc, hcc, hdc, h11c⟩, htP⟩ := htab
    have e1 : op = { cls := .none, data := .fields ps } := Option.some.inj (hop.symm.trans htP)
    refine ⟨⟨oc, vc, sb _ _ hne (hk _ _ hoc), hcc, hdc, h11c⟩, ?_⟩
    rw [hget, e1]
    simp only [Obj.mapFields, hnf]
    rfl
  · obtain ⟨c₂, o₂, vs₂, t₂, e₂, g₂, r₂⟩ := hrec'
    cases e₂
    exact ⟨_, o₂, vs₂, t₂, rfl, sb _ _ hcP g₂, r₂⟩
  · obtain ⟨o, vs, file, tf, flags, tg, inF, text, tt, op, ho, hd, h11, h2, h7, h9, h10, hop, r⟩ := hcode'
    exact ⟨o, vs, file, tf, flags, tg, inF, text, tt, op, sb _ _ hcP ho, hd, h11, h2, h7, h9, h10, sb _ _ hP'P hop, r⟩
  · obtain ⟨⟨oc, vc, hoc, hcc, hdc, h11c⟩, htP⟩ := htab'
    exact ⟨⟨oc, vc, sb _ _ hcP hoc, hcc, hdc, h11c⟩, sb _ _ hP'P htP⟩
end
end Mq
set_option tactic.hygienic false
namespace Mq
open PySem PySem.Spec PySem.Calls PyProof.Rows PySem.W PySem.W.X
section
variable {prog : Program} {w : World} {A : Around} {E : Value → Shared → Prop} {F : Fz} {h : Heap} {g : Array GenState} {d : Drawn} {t : Nat} {os : OsState} {N P c : Addr} {on : Obj} {ps : Array Value} {env : Env}
/-- a class's body under way: its names, its code's table, and what stands -/
structure CS (F : Fz) (h : Heap) (N P : Addr) (on : Obj) (c : Addr) (ps : Array Value) : Prop where
  keep : ∀ b x, F b = some x → h.get? b = some x
  nsAt : h.get? N = some on
  cls : on.cls = .type "dict"
  dict : ∃ es ep, on.data = .dict es ep
  code : h.IsCode c P ps
  tab : h.TableAt c P ps
  NP : N ≠ P
  FN : F N = none
  FP : F P = none
theorem CS.onNs {f : Obj → Obj} (T : CS F h N P on c ps) (hf : (f on).isFreed = false) (hc : (f on).cls = .type "dict") (hd : ∃ es ep, (f on).data = .dict es ep) : CS F (h.update N f) N P (f on) c ps := by
  have sb := Heap.SameBut.update h N f
  obtain ⟨es, ep, hdict⟩ := T.dict
  refine ⟨fun b x e => sb.2 b (by rintro rfl; rw [T.FN] at e; cases e) ▸ T.keep b x e, Heap.get?_update_self f T.nsAt hf, hc, hd, ?_, ?_, T.NP, T.FN, T.FP⟩
  · obtain ⟨o, vs, file, tf, flags, tg, inF, text, tt, op, ho, hod, h11, h2, h7, h9, h10, hop, r⟩ := T.code
    have hcN : c ≠ N := by rintro rfl; rw [T.nsAt] at ho; cases ho; rw [hdict] at hod; cases hod
    exact ⟨o, vs, file, tf, flags, tg, inF, text, tt, op, (sb.2 c hcN).trans ho, hod, h11, h2, h7, h9, h10, (sb.2 P (Ne.symm T.NP)).trans hop, r⟩
  · obtain ⟨⟨oc, vc, hoc, hcc, hdc, h11c⟩, htP⟩ := T.tab
    have hcN : c ≠ N := by rintro rfl; rw [T.nsAt] at hoc; cases hoc; rw [hdict] at hdc; cases hdc
    exact ⟨⟨oc, vc, (sb.2 c hcN).trans hoc, hcc, hdc, h11c⟩, (sb.2 P (Ne.symm T.NP)).trans htP⟩
theorem CS.conv {on' : Obj} (T : CS F h N P on c ps) (e : on = on') : CS F h N P on' c ps := e ▸ T
theorem cs_localSet {name : Str} {v : Value} {es : Array DictEntry} {ep : Nat} {Q : Unit → Shared → Prop} (T : CS F h N P on c ps) (hl : env.locals = N) (hd : on.data = .dict es ep) (hr : aRefKeyMayBeTheName name es = false)
    (hf : ∀ i k, (Obj.putName name i k v on).isFreed = false ∧ (Obj.putName name i k v on).cls = .type "dict" ∧ ∃ es ep, (Obj.putName name i k v on).data = .dict es ep)
    (hQ : ∀ h' i k t', CS F h' N P (Obj.putName name i (.str name k) v on) c ps → Q () ⟨h', g, d, t', os⟩) : wpAny (model prog w) A (localSet env name v) Q E ⟨h, g, d, t, os⟩ := by
  unfold localSet
  rw [hl]
  refine wpAny_bind (wpAny_load T.nsAt ?_)
  rw [T.cls]
  have e1 : (Value.type "dict" == Value.type "dict") = true := by decide +kernel
  rw [if_pos e1]
  unfold nsSet strHash
  refine wpAny_bind (wpAny_bind (wpAny_askSetting (wpAny_pure ?_)))
  refine wpAny_bind (wpAny_mkText ?_)
  refine wpAny_bind (wpAny_loadPart T.nsAt ?_)
  rw [hd]
  simp only [hr, Bool.false_eq_true, if_false]
  exact wpAny_updatePart T.nsAt (hQ _ _ _ _ (T.onNs (hf _ _).1 (hf _ _).2.1 (hf _ _).2.2))
theorem store_cls {name : Str} {v : Value} (hk : env.scope.kind = .class) (hn : env.kindOf name = some .local) : storeName env name v = localSet env name v := by
  unfold storeName Env.blockKind
  rw [hn, hk]; rfl
theorem store_own {name : Str} {v : Value} (hk : env.scope.kind = .class) (hn : env.kindOf name = none) (hc : compilersOwnNames.contains name = true) : storeName env name v = localSet env name v := by
  unfold storeName Env.blockKind
  rw [hn, hk, hc]; rfl
theorem CS.push (T : CS F h N P on c ps) (x : Obj) (hf : x.isFreed = false) : CS (F.add h.objs.size x) (h.push x) N P on c ps := by
  have n1 : N ≠ h.objs.size := fun q => by have := T.nsAt; rw [q, get?_size] at this; cases this
  have n2 : P ≠ h.objs.size := fun q => by have := T.tab.2; rw [q, get?_size] at this; cases this
  refine ⟨fun b y e => ?_, Heap.get?_push_of_some _ T.nsAt, T.cls, T.dict, T.code.push _, T.tab.push _, T.NP, by simp [Fz.add, n1, T.FN], by simp [Fz.add, n2, T.FP]⟩
  rcases Fz.add_cases e with ⟨rfl, rfl⟩ | e
  · exact Heap.get?_push_size _ hf
  · exact Heap.get?_push_of_some _ (T.keep _ _ e)
theorem CS.off (T : CS F h N P on c ps) {a : Addr} (e : h.get? a = none) : F a = none := by
  cases q : F a with
  | none => rfl
  | some y => rw [T.keep a y q] at e; cases e
theorem putName_dict (name : Str) (i : Int) (k v : Value) (c : Value) (dd : Option Addr) (es : Array DictEntry) (n : Nat) (sl : Array (Option Value)) : ∃ es' n', Obj.putName name i k v ⟨c, dd, .dict es n, sl⟩ = ⟨c, dd, .dict es' n', sl⟩ := by
  unfold Obj.putName
  dsimp only
  split
  · exact ⟨_, _, rfl⟩
  · exact ⟨_, _, rfl⟩
theorem putName_ok {es : Array DictEntry} {ep : Nat} (name : Str) (i : Int) (k v : Value) : (Obj.putName name i k v ⟨.type "dict", none, .dict es ep, #[]⟩).isFreed = false ∧ (Obj.putName name i k v ⟨.type "dict", none, .dict es ep, #[]⟩).cls = .type "dict" ∧ ∃ es' ep', (Obj.putName name i k v ⟨.type "dict", none, .dict es ep, #[]⟩).data = .dict es' ep' := by
  obtain ⟨es', n', e⟩ := putName_dict name i k v (.type "dict") none es ep #[]
  rw [e]
  exact ⟨rfl, rfl, _, _, rfl⟩
theorem cs_store {name : Str} {v : Value} {es : Array DictEntry} {ep ep' : Nat} {es' : Int → Tok → Array DictEntry} {Q : Unit → Shared → Prop} (T : CS F h N P ⟨.type "dict", none, .dict es ep, #[]⟩ c ps) (hl : env.locals = N) (hk : env.scope.kind = .class) (hn : env.kindOf name = some .local ∨ (env.kindOf name = none ∧ compilersOwnNames.contains name = true)) (hr : aRefKeyMayBeTheName name es = false)
    (he : ∀ i k, Obj.putName name i (.str name k) v ⟨.type "dict", none, .dict es ep, #[]⟩ = ⟨.type "dict", none, .dict (es' i k) ep', #[]⟩)
    (hQ : ∀ h' i k t', CS F h' N P ⟨.type "dict", none, .dict (es' i k) ep', #[]⟩ c ps → Q () ⟨h', g, d, t', os⟩) : wpAny (model prog w) A (storeName env name v) Q E ⟨h, g, d, t, os⟩ := by
  have e : storeName env name v = localSet env name v := by
    rcases hn with hn | ⟨hn, hc⟩
    · exact store_cls hk hn
    · exact store_own hk hn hc
  rw [e]
  exact cs_localSet T hl rfl hr (fun i k => putName_ok _ _ _ _) fun h' i k t' T' => hQ h' i k t' (T'.conv (he i k))
theorem cs_load {name : Str} {v : Value} {mg : Str → Option Value} {Q : Value → Shared → Prop} (T : CS F h N P on c ps) (hl : env.locals = N) (hk : env.scope.kind = .class) (hn : env.kindOf name = none) (hc : compilersOwnNames.contains name = true) (hnone : nsLook name on = pure none) (hgl : env.globals = mainGlobals) (hg : h.Ns mainGlobals mg) (hv : mg name = some v)
    (hQ : Q v ⟨h, g, d, t, os⟩) : wpAny (model prog w) A (loadName env name) Q E ⟨h, g, d, t, os⟩ := by
  unfold loadName Env.blockKind
  rw [hn, hk]
  have e0 : ((ScopeKind.class.isAnnotationScope && env.kindOf (Str.ofString "__classdict__") == some NameKind.free && name != Str.ofString "__classdict__") = true) = False := by simp [ScopeKind.isAnnotationScope]
  simp only [hc, e0, if_false, Bool.not_true, Bool.false_eq_true]
  have e1 : (Value.type "dict" == Value.type "dict") = true := by decide +kernel
  unfold localGet
  rw [hl]
  show wpAny _ _ ((PySem.load N >>= _) >>= _) _ _ _
  refine wpAny_bind (wpAny_bind (wpAny_load T.nsAt ?_))
  rw [T.cls, if_pos e1]
  refine ns_get T.nsAt hnone ?_
  unfold loadGlobal
  rw [hgl]
  refine wpAny_bind (wpAny_nsGet hg ?_)
  rw [hv]
  exact wpAny_pure hQ
/-- a function with what it took over, and its code -/
inductive CloC (Z : Fz) (g cc : Addr) (name q : Str) (params : Arguments) (body : List Stmt) (scope : Scope) (cl : List (Str × Addr)) : Prop
  | mk (T : Addr) (pm : Value) (co : Obj) (vs : Array Value) (t : Tok) (_ : Z g = some { cls := .type "function", data := .func (fdC name q params body scope cl T pm (.ref cc)) }) (_ : Z cc = some co) (_ : co.cls = .type "code") (_ : co.data = .fields vs) (_ : vs[1]? = some (.str q t)) : CloC Z g cc name q params body scope cl
/-- a def in a class's body -/
theorem cs_def {name x q : Str} {params : Arguments} {ibody : List Stmt} {iscope : Scope} {pos : Pos} {cm : Addr} {mg : Str → Option Value} {es : Array DictEntry} {ep : Nat} {Q : Flow → Shared → Prop}
    (T : CS F h N P on c ps) (hl : env.locals = N) (hk : env.scope.kind = .class) (hn : env.kindOf name = some .local) (hgl : env.globals = mainGlobals) (hcode : env.code = .ref c) (hg : ∀ h' : Heap, (∀ b y, F b = some y → h'.get? b = some y) → h'.Ns mainGlobals mg) (hPg : mainGlobals ≠ P)
    (hB : ∀ h' : Heap, (∀ b y, F b = some y → h'.get? b = some y) → h'.BuiltinsAt mg P) (hd : on.data = .dict es ep) (hr : aRefKeyMayBeTheName name es = false)
    (hf : ∀ i k u, (Obj.putName name i k u on).isFreed = false ∧ (Obj.putName name i k u on).cls = .type "dict" ∧ ∃ es ep, (Obj.putName name i k u on).data = .dict es ep)
    (hnf : codeAmong pos ps.toList = none) (hclos : closureFor iscope env = pure [(x, cm)]) (hq : qualnameIn env name name = q) (hkw : params.kwonlyargs = []) (hkd : params.kw_defaults = []) (hdf : params.defaults = []) (hann : annTrees params none env = []) (hdoc : docOf ibody = none)
    (hQ : ∀ h' i k t' g' cc F', LeZ F F' → (∀ a o, F' a = some o → F a = none → h.get? a = none) → CS F' h' N P (Obj.putName name i (.str name k) (.ref g') on) c (ps ++ #[rawInt pos.line, rawInt pos.col, .ref cc]) → h.get? g' = none → h.get? cc = none → CloC F' g' cc name q params ibody iscope [(x, cm)] →
      Q .next ⟨h', g, d, t', os⟩) :
    wpAny (model prog w) A (exec (.FunctionDef name params ibody [] none [] iscope none name pos) env) Q E ⟨h, g, d, t, os⟩ := by
  rw [exec_def, hq, defaultsOf_eq, hdf, hkd, hann]
  refine wpAny_bind (wpAny_standAt (wpAny_bind (wpAny_holding ?_)))
  refine wpAny_bind (wpAny_pure (wpAny_bind (wpAny_holding (wpAny_pure ?_))))
  refine wpAny_holding (wpAny_bind (wpAny_pure ?_))
  refine wpAny_makeC2 (mg := mg) (c := c) (Pl := P) (ps := ps) (cl := [(x, cm)]) hkw hclos rfl hdoc (by rw [hgl]; exact hg _ T.keep) hgl hcode T.code T.tab hnf (by rw [hgl]; exact hPg) (hB _ T.keep) fun T' c' h' tk keep₂ hc' hsz' hok' htab' hrec hcc => ?_
  obtain ⟨_, co, vs, tq, hcc', hco', hcd', hcq⟩ := hrec
  cases hcc'
  obtain ⟨P', ⟨co2, vs2, hco2, hccls, _⟩, _⟩ := hcc
  rw [hco'] at hco2; cases hco2
  have n2 : h.get? c' = none := by
    cases e : h.get? c' with
    | none => rfl
    | some y => exact absurd (Heap.lt_size e) (Nat.not_lt.mpr hc')
  have n1 : h.get? h'.objs.size = none := by
    cases e : h.get? h'.objs.size with
    | none => rfl
    | some y => exact absurd (Heap.lt_size e) (Nat.not_lt.mpr hsz')
  have d12 : c' ≠ h'.objs.size := Nat.ne_of_lt (Heap.lt_size hco')
  have offF : ∀ a, h.get? a = none → F a = none := fun a e => by
    cases q' : F a with
    | none => rfl
    | some y => rw [T.keep a y q'] at e; cases e
  generalize hfo : ({ cls := .type "function", data := .func (fdC name q params ibody iscope [(x, cm)] T' ((mg "__name__").getD .none) (.ref c')) } : Obj) = fo
  have hfof : fo.isFreed = false := by rw [← hfo]; rfl
  have Nne : N ≠ h'.objs.size := fun e => by rw [e] at T; have := T.nsAt; rw [n1] at this; cases this
  have Nne2 : N ≠ c' := fun e => by rw [e] at T; have := T.nsAt; rw [n2] at this; cases this
  have Pne : P ≠ h'.objs.size := fun e => by have := T.tab.2; rw [e, n1] at this; cases this
  have Pne2 : P ≠ c' := fun e => by have := T.tab.2; rw [e, n2] at this; cases this
  have T₂ : CS ((F.add h'.objs.size fo).add c' co) (h'.push fo) N P on c (ps ++ #[rawInt pos.line, rawInt pos.col, .ref c']) := by
    refine ⟨fun b y e => ?_, Heap.get?_push_of_some _ (keep₂ _ _ T.NP T.nsAt), T.cls, T.dict, hok'.push _, htab'.push _, T.NP, by simp [Fz.add, Nne, Nne2, T.FN], by simp [Fz.add, Pne, Pne2, T.FP]⟩
    rcases Fz.add_cases e with ⟨rfl, rfl⟩ | e
    · exact Heap.get?_push_of_some _ hco'
    · rcases Fz.add_cases e with ⟨rfl, rfl⟩ | e
      · exact Heap.get?_push_size _ hfof
      · exact Heap.get?_push_of_some _ (keep₂ _ _ (by rintro rfl; rw [T.FP] at e; cases e) (T.keep _ _ e))
  have z1 := offF _ n1
  have z2 : (F.add h'.objs.size fo) c' = none := by simp [Fz.add, d12, offF _ n2]
  have le := (Fz.le_add (o := fo) z1).trans (Fz.le_add (o := co) z2)
  refine wpAny_bind (wpAny_standAt (wpAny_bind (wpAny_bindName ?_)))
  rw [store_cls hk hn]
  refine cs_localSet T₂ hl hd hr (fun i k => hf i k _) (fun h₃ i k t' T₃ => wpAny_pure (hQ _ i k t' _ c' _ le (fun a y e e' => ?_) T₃ n1 n2 ?_))
  · rcases Fz.add_cases e with ⟨rfl, rfl⟩ | e
    · exact n2
    · rcases Fz.add_cases e with ⟨rfl, rfl⟩ | e
      · exact n1
      · rw [e'] at e; cases e
  · refine ⟨T', (mg "__name__").getD .none, co, vs, tq, ?_, Fz.add_self .., hccls, hcd', hcq⟩
    rw [hfo]
    exact Fz.le_add z2 _ _ (Fz.add_self ..)
/-- a function that was made, nothing taken over -/
inductive DefC (Z : Fz) (g cc : Addr) (name q : Str) (params : Arguments) (body : List Stmt) (scope : Scope) : Prop
  | mk (pm : Value) (co : Obj) (vs : Array Value) (t : Tok) (_ : Z g = some { cls := .type "function", data := .func (fd0 name q params body scope pm (.ref cc)) }) (_ : Z cc = some co) (_ : co.cls = .type "code") (_ : co.data = .fields vs) (_ : vs[1]? = some (.str q t)) : DefC Z g cc name q params body scope
theorem cs_def0 {name q : Str} {params : Arguments} {ibody : List Stmt} {iscope : Scope} {pos : Pos} {mg : Str → Option Value} {es : Array DictEntry} {ep : Nat} {Q : Flow → Shared → Prop}
    (T : CS F h N P on c ps) (hl : env.locals = N) (hk : env.scope.kind = .class) (hn : env.kindOf name = some .local) (hgl : env.globals = mainGlobals) (hcode : env.code = .ref c) (hg : ∀ h' : Heap, (∀ b y, F b = some y → h'.get? b = some y) → h'.Ns mainGlobals mg) (hPg : mainGlobals ≠ P)
    (hB : ∀ h' : Heap, (∀ b y, F b = some y → h'.get? b = some y) → h'.BuiltinsAt mg P) (hd : on.data = .dict es ep) (hr : aRefKeyMayBeTheName name es = false)
    (hf : ∀ i k u, (Obj.putName name i k u on).isFreed = false ∧ (Obj.putName name i k u on).cls = .type "dict" ∧ ∃ es ep, (Obj.putName name i k u on).data = .dict es ep)
    (hnf : codeAmong pos ps.toList = none) (hclos : closureFor iscope env = pure []) (hq : qualnameIn env name name = q) (hkw : params.kwonlyargs = []) (hkd : params.kw_defaults = []) (hdf : params.defaults = []) (hann : annTrees params none env = []) (hdoc : docOf ibody = none)
    (hQ : ∀ h' i k t' g' cc F', LeZ F F' → (∀ a o, F' a = some o → F a = none → h.get? a = none) → CS F' h' N P (Obj.putName name i (.str name k) (.ref g') on) c (ps ++ #[rawInt pos.line, rawInt pos.col, .ref cc]) → h.get? g' = none → h.get? cc = none → DefC F' g' cc name q params ibody iscope →
      Q .next ⟨h', g, d, t', os⟩) :
    wpAny (model prog w) A (exec (.FunctionDef name params ibody [] none [] iscope none name pos) env) Q E ⟨h, g, d, t, os⟩ := by
  rw [exec_def, hq, defaultsOf_eq, hdf, hkd, hann]
  refine wpAny_bind (wpAny_standAt (wpAny_bind (wpAny_holding ?_)))
  refine wpAny_bind (wpAny_pure (wpAny_bind (wpAny_holding (wpAny_pure ?_))))
  refine wpAny_holding (wpAny_bind (wpAny_pure ?_))
  refine wpAny_makeC0 (mg := mg) (c := c) (Pl := P) (ps := ps) hkw hclos hdoc (by rw [hgl]; exact hg _ T.keep) hgl hcode T.code T.tab hnf (by rw [hgl]; exact hPg) (hB _ T.keep) fun c' h' tk keep₂ hc' hsz' hok' htab' hrec hcc => ?_
  obtain ⟨_, co, vs, tq, hcc', hco', hcd', hcq⟩ := hrec
  cases hcc'
  obtain ⟨P', ⟨co2, vs2, hco2, hccls, _⟩, _⟩ := hcc
  rw [hco'] at hco2; cases hco2
  have n2 : h.get? c' = none := by
    cases e : h.get? c' with
    | none => rfl
    | some y => exact absurd (Heap.lt_size e) (Nat.not_lt.mpr hc')
  have n1 : h.get? h'.objs.size = none := by
    cases e : h.get? h'.objs.size with
    | none => rfl
    | some y => exact absurd (Heap.lt_size e) (Nat.not_lt.mpr hsz')
  have d12 : c' ≠ h'.objs.size := Nat.ne_of_lt (Heap.lt_size hco')
  have offF : ∀ a, h.get? a = none → F a = none := fun a e => by
    cases q' : F a with
    | none => rfl
    | some y => rw [T.keep a y q'] at e; cases e
  generalize hfo : ({ cls := .type "function", data := .func (fd0 name q params ibody iscope ((mg "__name__").getD .none) (.ref c')) } : Obj) = fo
  have hfof : fo.isFreed = false := by rw [← hfo]; rfl
  have Nne : N ≠ h'.objs.size := fun e => by rw [e] at T; have := T.nsAt; rw [n1] at this; cases this
  have Nne2 : N ≠ c' := fun e => by rw [e] at T; have := T.nsAt; rw [n2] at this; cases this
  have Pne : P ≠ h'.objs.size := fun e => by have := T.tab.2; rw [e, n1] at this; cases this
  have Pne2 : P ≠ c' := fun e => by have := T.tab.2; rw [e, n2] at this; cases this
  have T₂ : CS ((F.add h'.objs.size fo).add c' co) (h'.push fo) N P on c (ps ++ #[rawInt pos.line, rawInt pos.col, .ref c']) := by
    refine ⟨fun b y e => ?_, Heap.get?_push_of_some _ (keep₂ _ _ T.NP T.nsAt), T.cls, T.dict, hok'.push _, htab'.push _, T.NP, by simp [Fz.add, Nne, Nne2, T.FN], by simp [Fz.add, Pne, Pne2, T.FP]⟩
    rcases Fz.add_cases e with ⟨rfl, rfl⟩ | e
    · exact Heap.get?_push_of_some _ hco'
    · rcases Fz.add_cases e with ⟨rfl, rfl⟩ | e
      · exact Heap.get?_push_size _ hfof
      · exact Heap.get?_push_of_some _ (keep₂ _ _ (by rintro rfl; rw [T.FP] at e; cases e) (T.keep _ _ e))
  have z1 := offF _ n1
  have z2 : (F.add h'.objs.size fo) c' = none := by simp [Fz.add, d12, offF _ n2]
  have le := (Fz.le_add (o := fo) z1).trans (Fz.le_add (o := co) z2)
  refine wpAny_bind (wpAny_standAt (wpAny_bind (wpAny_bindName ?_)))
  rw [store_cls hk hn]
  refine cs_localSet T₂ hl hd hr (fun i k => hf i k _) (fun h₃ i k t' T₃ => wpAny_pure (hQ _ i k t' _ c' _ le (fun a y e e' => ?_) T₃ n1 n2 ?_))
  · rcases Fz.add_cases e with ⟨rfl, rfl⟩ | e
    · exact n2
    · rcases Fz.add_cases e with ⟨rfl, rfl⟩ | e
      · exact n1
      · rw [e'] at e; cases e
  · refine ⟨(mg "__name__").getD .none, co, vs, tq, ?_, Fz.add_self .., hccls, hcd', hcq⟩
    rw [hfo]
    exact Fz.le_add z2 _ _ (Fz.add_self ..)
end
end Mq
set_option tactic.hygienic false
namespace Mq
open PySem PySem.Spec PySem.Calls PyProof.Rows PySem.W PySem.W.X
variable {prog : Program} {w : World}
theorem mem_new {h h' : Heap} {chg news : List (Addr × Obj)} (D : Mem h h' chg news) (i : Nat) {a : Addr} {o : Obj} (hi : news[i]? = some (a, o)) : h.get? a = none := (D.nw _ (List.mem_of_getElem? hi)).2
local macro_rules | `(tactic| x_close) => `(tactic| exact ⟨_, _, rfl, mem_keeps (by assumption), _, rfl, (Mem.at (by assumption) 0 _ _ rfl).trans (by kernel_rfl!)⟩)
theorem call_getprep {s : Shared} {t : Tok} :
    wpAny (model prog w) A0 (call (.builtin "type.__getattribute__") [.type "type", .str "__prepare__" t]) (XP s fun v h' => ∃ u, v = .ref u ∧ h'.get? u = some { cls := .type "builtin_function_or_method", data := .fields #[.builtin "type.__prepare__", .type "type"] }) (fun _ _ => False) s := by
  x_run
local macro_rules | `(tactic| x_close) => `(tactic| exact ⟨_, _, rfl, mem_keeps (by assumption), _, rfl, Mem.at (by assumption) 0 _ _ rfl, mem_new (by assumption) 0 rfl⟩)
theorem call_prep {s : Shared} {t : Tok} {u B : Addr} {nB : Nat} (hu : s.heap.get? u = some { cls := .type "builtin_function_or_method", data := .fields #[.builtin "type.__prepare__", .type "type"] }) (hB : s.heap.get? B = some { cls := .type "tuple", data := .seq #[.type "object"] nB }) :
    wpAny (model prog w) A0 (call (.ref u) [.str "K" t, .ref B]) (XP s fun v h' => ∃ N, v = .ref N ∧ h'.get? N = some { cls := .type "dict", data := .dict #[] } ∧ s.heap.get? N = none) (fun _ _ => False) s := by
  x_run
theorem kf_ga_type : typeLookup (.type "type") "__getattribute__" = pure (some (.builtin "type.__getattribute__")) := by kernel_rfl!
theorem kf_tt : typeOf (.type "type") = pure (.type "type") := by kernel_rfl!
theorem kf_bind_ga (v : Value) : bindSpecial (.builtin "type.__getattribute__") v = pure (.builtin "type.__getattribute__", [v]) := by kernel_rfl!
theorem get_prep {A : Around} (hA : Le0 A) {hp : Heap} {g : Array GenState} {d : Drawn} {t : Nat} {os : OsState} {Q : Option Value → Shared → Prop} {E : Value → Shared → Prop}
    (hQ : ∀ h' t' u, (∀ b o, hp.get? b = some o → h'.get? b = some o) → h'.get? u = some { cls := .type "builtin_function_or_method", data := .fields #[.builtin "type.__prepare__", .type "type"] } → Q (some (.ref u)) ⟨h', g, d, t', os⟩) :
    wpAny (model prog w) A (getAttr? (.type "type") "__prepare__") Q E ⟨hp, g, d, t, os⟩ := by
  unfold getAttr? getAttrBy? getAttrBy
  refine wpAny_bind (wpAny_mkText (wpAny_bind (wpAny_attempt (wpAny_holding (wpAny_bind (wpAny_of_eq kf_tt (wpAny_bind (wpAny_of_eq kf_ga_type ?_))))))))
  repeat (first | ((fail_if_success (with_reducible (first | show wpAny _ _ (call _ _) _ _ _ | show wpAny _ _ (bindSpecial _ _) _ _ _))); wp_step))
  refine wpAny_of_eq (kf_bind_ga _) ?_
  dsimp only
  refine wpAny_mono (hA.go (call_getprep (s := ⟨hp, g, d, _, os⟩))) (fun v s' q => ?_) fun _ _ z => z
  obtain ⟨h', t', rfl, hk, u, rfl, hu⟩ := q
  repeat wp_step
  exact hQ h' t' u hk hu
end Mq
set_option tactic.hygienic false
namespace Mq
open PySem PySem.Spec PySem.Calls PyProof.Rows PySem.W PySem.W.X
variable {prog : Program} {w : World}
theorem kf_getitem_dict : typeLookup (.type "dict") "__getitem__" = pure (some (.builtin "dict.__getitem__")) := by kernel_rfl!
noncomputable def ns3 (i0 i1 i2 : Int) (k0 k1 k2 tq tl : Tok) (v0 : Value) (ln : Int) (q : Str) : Obj := ⟨.type "dict", none, .dict #[⟨i0, .str "__module__" k0, v0⟩, ⟨i1, .str "__qualname__" k1, .str q tq⟩, ⟨i2, .str "__firstlineno__" k2, .int ln tl⟩] 3, #[]⟩
/-- what a class's body leaves -/
structure BodyEnd (Gd : Fz → List Addr → Prop) (F : Fz) (h0 : Heap) (N P' c' : Addr) (q : Str) (ln : Int) (F' : Fz) (h' : Heap) (SL : Addr) (fs : List Addr) : Prop where
  le : LeZ F F'
  fns : ∀ f ∈ fs, ∃ o, F' f = some o ∧ o.cls = .type "function"
  good : Gd F' fs
  slots : ∃ ts n, F' SL = some { cls := .type "list", data := .seq #[.str "obj" ts] n }
noncomputable def ns11 (i0 i1 i2 i3 i4 i5 i6 i7 i8 i9 i10 : Int) (k0 k1 k2 k3 k4 k5 k6 k7 k8 k9 k10 tm tq tl : Tok) (ln : Int) (q : Str) (SL f0 f1 f2 f3 f4 f5 : Addr) : Obj :=
  ⟨.type "dict", none, .dict #[⟨i0, .str "__module__" k0, .str "cpy313.functools" tm⟩, ⟨i1, .str "__qualname__" k1, .str q tq⟩, ⟨i2, .str "__firstlineno__" k2, .int ln tl⟩, ⟨i3, .str "__slots__" k3, .ref SL⟩, ⟨i4, .str "__init__" k4, .ref f0⟩, ⟨i5, .str "__lt__" k5, .ref f1⟩, ⟨i6, .str "__gt__" k6, .ref f2⟩, ⟨i7, .str "__eq__" k7, .ref f3⟩, ⟨i8, .str "__le__" k8, .ref f4⟩, ⟨i9, .str "__ge__" k9, .ref f5⟩, ⟨i10, .str "__hash__" k10, .none⟩] 11, #[]⟩
inductive BodyPost (Gd : Fz → List Addr → Prop) (F0 : Fz) (g : Array GenState) (d : Drawn) (os : OsState) (N P' c' : Addr) (h' : Heap) (i0 i1 i2 : Int) (k0 k1 k2 tq tl : Tok) (fl : Int) (q : Str) (r : Result) (s' : Shared) : Prop
  | mk (F' : Fz) (h'' : Heap) (t'' : Nat) (ps' : Array Value) (SL f0 f1 f2 f3 f4 f5 : Addr) (j3 j4 j5 j6 j7 j8 j9 j10 : Int) (l3 l4 l5 l6 l7 l8 l9 l10 tm : Tok)
    (_ : r = .ok .next) (_ : s' = ⟨h'', g, d, t'', os⟩)
    (_ : CS F' h'' N P' (ns11 i0 i1 i2 j3 j4 j5 j6 j7 j8 j9 j10 k0 k1 k2 l3 l4 l5 l6 l7 l8 l9 l10 tm tq tl fl q SL f0 f1 f2 f3 f4 f5) c' ps')
    (_ : BodyEnd Gd F0 h' N P' c' q fl F' h'' SL [f0, f1, f2, f3, f4, f5])
    : BodyPost Gd F0 g d os N P' c' h' i0 i1 i2 k0 k1 k2 tq tl fl q r s'
theorem build_class {A : Around} (hA : Le0 A) (hA2 : Le0 A.in1.in1) (hA3 : Le0 A.in1.in1.in1) {env : Env} {body : List Stmt} {scope : Scope} {fl : Nat} {pos : Pos} {cm c0 P0 : Addr} {ps0 : Array Value} {mg : Str → Option Value} {hp : Heap} {g : Array GenState} {d : Drawn} {t : Nat} {os : OsState} {Q : Value → Shared → Prop} {E : Value → Shared → Prop} {v0 : Value} {Gd : Fz → List Addr → Prop}
  (hsc1 : scope.names.lookup (Str.ofString "__class__") = none) (hsc2 : scope.names.lookup (Str.ofString "__classdict__") = none) (hclos : closureFor scope env = pure [(Str.ofString "mycmp", cm)]) (hgl : env.globals = mainGlobals) (hcode : env.code = .ref c0) (hok : hp.IsCode c0 P0 ps0) (htab : hp.TableAt c0 P0 ps0) (hnf : codeAmong pos ps0.toList = none)
  (hkind : scope.kind = .class) (hn0 : scope.names.lookup (Str.ofString "__name__") = none) (hn1 : scope.names.lookup (Str.ofString "__module__") = some .local) (hn2 : scope.names.lookup (Str.ofString "__qualname__") = none) (hn3 : scope.names.lookup (Str.ofString "__firstlineno__") = none) (hn4 : scope.names.lookup (Str.ofString "__static_attributes__") = none)
  (hg : ∀ h' : Heap, (∀ b y, b ≠ P0 → hp.get? b = some y → h'.get? b = some y) → h'.Ns mainGlobals mg) (hgP : mainGlobals ≠ P0) (hmn : mg "__name__" = some v0) (hlim : ∀ h' : Heap, (∀ b y, b ≠ P0 → hp.get? b = some y → h'.get? b = some y) → h'.NoLimit)
  (hB : ∀ h' : Heap, (∀ b y, b ≠ P0 → hp.get? b = some y → h'.get? b = some y) → h'.BuiltinsAt mg P0) (hsys : ∃ o, hp.get? sysModules = some o)
  (hrun : ∀ (B N c' P' fr : Addr) (h' : Heap) (t' : Nat) i0 i1 i2 k0 k1 k2 tq tl, CS (Fz.add (fun b => if b = P0 then some (X.tableObj (ps0 ++ #[rawInt pos.line, rawInt pos.col, .ref c'])) else hp.get? b) B { cls := .type "tuple", data := .seq #[.type "object"] }) h' N P' (ns3 i0 i1 i2 k0 k1 k2 tq tl v0 fl "cmp_to_key.<locals>.K") c' #[] → hp.get? B = none → hp.get? P' = none →
    codeAny (model prog w) A (.body body { scope := scope, locals := N, globals := mainGlobals, cells := [(Str.ofString "mycmp", cm)], qual := Str.ofString "cmp_to_key.<locals>.K" ++ Str.ofString ".", code := .ref c', frame := some fr, builtins := builtinsNs })
      (BodyPost Gd (Fz.add (fun b => if b = P0 then some (X.tableObj (ps0 ++ #[rawInt pos.line, rawInt pos.col, .ref c'])) else hp.get? b) B { cls := .type "tuple", data := .seq #[.type "object"] }) g d os N P' c' h' i0 i1 i2 k0 k1 k2 tq tl fl "cmp_to_key.<locals>.K") ⟨h', g, d, t', os⟩)
  (hS : ∃ o, hp.get? cStatics = some o ∧ nsLook "thirdparty.any" o = pure none) (hSP : cStatics ≠ P0) 
  (hQ : ∀ (h' : Heap) (t' : Nat) (F' : Fz) (C ns md : Addr) (B SL ST f0 f1 f2 f3 f4 f5 : Addr) (t3 tq tm tl : Tok) (i0 i2 i3 i4 i5 i6 i7 i8 i9 i10 i11 i12 i13 : Int) (k0 k2 k3 k4 k5 k6 k7 k8 k9 k10 k11 k12 k13 : Tok), (∀ b y, b ≠ P0 → hp.get? b = some y → h'.get? b = some y) → (∃ ps, h'.get? P0 = some (X.tableObj ps)) →
    (∀ a o, F' a = some o → h'.get? a = some o) → Gd F' [f0, f1, f2, f3, f4, f5] → hp.get? C = none → hp.get? ns = none → hp.get? md = none → md ≠ ns → md ≠ C → ns ≠ C →
    h'.get? C = some ⟨Value.type "type", none, Data.cls { name := "K", bases := [.type "object"], mro := [.ref C, .type "object"], ns := ns, qualname := "cmp_to_key.<locals>.K", hasDict := false, slotNames := ["obj"] }, #[some (.ref B), none, some (.str "K" t3), some (.str "cmp_to_key.<locals>.K" tq), some (.builtin "object.__new__"), some (.bool false)]⟩ →
    h'.get? ns = some ⟨.type "dict", none, .dict #[⟨i0, .str "__module__" k0, .str "cpy313.functools" tm⟩, ⟨i2, .str "__firstlineno__" k2, .int fl tl⟩, ⟨i3, .str "__slots__" k3, .ref SL⟩, ⟨i4, .str "__init__" k4, .ref f0⟩, ⟨i5, .str "__lt__" k5, .ref f1⟩, ⟨i6, .str "__gt__" k6, .ref f2⟩, ⟨i7, .str "__eq__" k7, .ref f3⟩, ⟨i8, .str "__le__" k8, .ref f4⟩, ⟨i9, .str "__ge__" k9, .ref f5⟩, ⟨i10, .str "__hash__" k10, .none⟩, ⟨i11, .str "__static_attributes__" k11, .ref ST⟩, ⟨i12, .str "obj" k12, .ref md⟩, ⟨i13, .str "__doc__" k13, .none⟩] 3, #[]⟩ →
    (∃ tb, h'.get? md = some { cls := Value.type "member_descriptor", data := Data.fields #[Value.str (Str.ofString "obj") tb, Value.ref C, Value.builtin "proto.slot", Value.builtin "proto.slot#set", .int 0 0] }) → Q (.ref C) ⟨h', g, d, t', os⟩) :
  wpAny (model prog w) A (buildClass "K" "cmp_to_key.<locals>.K" [.type "object"] [] body scope ["obj"] fl env pos none) Q E ⟨hp, g, d, t, os⟩ := by
  have e1 : (scope.names.lookup (Str.ofString "__class__") == some NameKind.cell) = false := by rw [hsc1]; rfl
  have e2 : (scope.names.lookup (Str.ofString "__classdict__") == some NameKind.cell) = false := by rw [hsc2]; rfl
  unfold buildClass
  (repeat (first | (with_reducible first | refine wpAny_pure ?_ | refine wpAny_bind ?_ | refine wpAny_holding ?_) | ((fail_if_success ((with_reducible first | show wpAny _ _ (nsGet _ _) _ _ _ | show wpAny _ _ (getAttr? _ _) _ _ _ | show wpAny _ _ (call _ _ _) _ _ _ | show wpAny _ _ (classCode _ _ _ _ _ _) _ _ _ | show wpAny _ _ (builtinsFor _ _) _ _ _ | show wpAny _ _ (enterFrame _) _ _ _ | show wpAny _ _ (storeName _ _ _) _ _ _ | show wpAny _ _ (Sem.onRaise _ _) _ _ _ | show wpAny _ _ (run _) _ _ _ | show wpAny _ _ (loadName _ _) _ _ _ | show wpAny _ _ (closureFor _ _) _ _ _ | show wpAny _ _ (specialOf _ _) _ _ _ | show wpAny _ _ (newBodyFrame _ _ _ _) _ _ _ | show wpAny _ _ (newTextTuple _) _ _ _ | show wpAny _ _ (Sem.load _ _ _) _ _ _))); first | ((with_reducible first | refine wpAny_of_eq KF.sub_tuple ?_ | refine wpAny_of_eq KF.sub_dict ?_ | refine wpAny_of_eq KF.sub_type ?_ | refine wpAny_of_eq KF.type_object ?_)) | wp_delta | wp_step)))
  refine get_prep hA (fun h1 t1 u k1 hu => ?_)
  have eB : h1.get? hp.objs.size = some { cls := .type "tuple", data := .seq #[.type "object"] } := k1 _ _ (Heap.get?_push_size _ rfl)
  have k1' : ∀ b o, hp.get? b = some o → h1.get? b = some o := fun b o e => k1 _ _ (Heap.get?_push_of_some _ e)
  have fB : hp.get? hp.objs.size = none := get?_size _
  generalize hp.objs.size = B at eB fB ⊢
  (repeat (first | (with_reducible first | refine wpAny_pure ?_ | refine wpAny_bind ?_ | refine wpAny_holding ?_) | ((fail_if_success ((with_reducible first | show wpAny _ _ (nsGet _ _) _ _ _ | show wpAny _ _ (getAttr? _ _) _ _ _ | show wpAny _ _ (call _ _ _) _ _ _ | show wpAny _ _ (classCode _ _ _ _ _ _) _ _ _ | show wpAny _ _ (builtinsFor _ _) _ _ _ | show wpAny _ _ (enterFrame _) _ _ _ | show wpAny _ _ (storeName _ _ _) _ _ _ | show wpAny _ _ (Sem.onRaise _ _) _ _ _ | show wpAny _ _ (run _) _ _ _ | show wpAny _ _ (loadName _ _) _ _ _ | show wpAny _ _ (closureFor _ _) _ _ _ | show wpAny _ _ (specialOf _ _) _ _ _ | show wpAny _ _ (newBodyFrame _ _ _ _) _ _ _ | show wpAny _ _ (newTextTuple _) _ _ _ | show wpAny _ _ (Sem.load _ _ _) _ _ _))); first | ((with_reducible first | refine wpAny_of_eq KF.sub_tuple ?_ | refine wpAny_of_eq KF.sub_dict ?_ | refine wpAny_of_eq KF.sub_type ?_ | refine wpAny_of_eq KF.type_object ?_)) | wp_delta | wp_step)))
  refine wpAny_mono (hA.go (call_prep (s := ⟨h1, g, d, t1, os⟩) hu eB)) (fun v s' q => ?_) fun _ _ z => z
  obtain ⟨h2, t2, rfl, k2, N, rfl, eN, fN⟩ := q
  obtain ⟨osys, hsys1⟩ := hsys
  have hN1 : (N == sysModules) = false := by
    have : N ≠ sysModules := fun q => by rw [q] at fN; rw [k1' _ _ hsys1] at fN; cases fN
    simpa using this
  (repeat (first | (with_reducible first | refine wpAny_pure ?_ | refine wpAny_bind ?_ | refine wpAny_holding ?_) | ((fail_if_success ((with_reducible first | show wpAny _ _ (nsGet _ _) _ _ _ | show wpAny _ _ (getAttr? _ _) _ _ _ | show wpAny _ _ (call _ _ _) _ _ _ | show wpAny _ _ (classCode _ _ _ _ _ _) _ _ _ | show wpAny _ _ (builtinsFor _ _) _ _ _ | show wpAny _ _ (enterFrame _) _ _ _ | show wpAny _ _ (storeName _ _ _) _ _ _ | show wpAny _ _ (Sem.onRaise _ _) _ _ _ | show wpAny _ _ (run _) _ _ _ | show wpAny _ _ (loadName _ _) _ _ _ | show wpAny _ _ (closureFor _ _) _ _ _ | show wpAny _ _ (specialOf _ _) _ _ _ | show wpAny _ _ (newBodyFrame _ _ _ _) _ _ _ | show wpAny _ _ (newTextTuple _) _ _ _ | show wpAny _ _ (Sem.load _ _ _) _ _ _))); first | ((with_reducible first | refine wpAny_of_eq KF.sub_tuple ?_ | refine wpAny_of_eq KF.sub_dict ?_ | refine wpAny_of_eq KF.sub_type ?_ | refine wpAny_of_eq KF.type_object ?_)) | wp_delta | wp_step)))
  refine wpAny_specialOf ⟨_, eN, rfl⟩ kf_getitem_dict ?_
  (repeat (first | (with_reducible first | refine wpAny_pure ?_ | refine wpAny_bind ?_ | refine wpAny_holding ?_) | ((fail_if_success ((with_reducible first | show wpAny _ _ (nsGet _ _) _ _ _ | show wpAny _ _ (getAttr? _ _) _ _ _ | show wpAny _ _ (call _ _ _) _ _ _ | show wpAny _ _ (classCode _ _ _ _ _ _) _ _ _ | show wpAny _ _ (builtinsFor _ _) _ _ _ | show wpAny _ _ (enterFrame _) _ _ _ | show wpAny _ _ (storeName _ _ _) _ _ _ | show wpAny _ _ (Sem.onRaise _ _) _ _ _ | show wpAny _ _ (run _) _ _ _ | show wpAny _ _ (loadName _ _) _ _ _ | show wpAny _ _ (closureFor _ _) _ _ _ | show wpAny _ _ (specialOf _ _) _ _ _ | show wpAny _ _ (newBodyFrame _ _ _ _) _ _ _ | show wpAny _ _ (newTextTuple _) _ _ _ | show wpAny _ _ (Sem.load _ _ _) _ _ _))); first | ((with_reducible first | refine wpAny_of_eq KF.sub_tuple ?_ | refine wpAny_of_eq KF.sub_dict ?_ | refine wpAny_of_eq KF.sub_type ?_ | refine wpAny_of_eq KF.type_object ?_)) | wp_delta | wp_step)))
  have k02 : ∀ b o, hp.get? b = some o → h2.get? b = some o := fun b o e => k2 _ _ (k1' _ _ e)
  refine wpAny_classCodeX hcode (hok.keeps k02) (htab.keeps k02) hnf (fun c' h3 t3 P' kx hc' hP' htab3 hrec hcode3 htabc => ?_)
  have k03 : ∀ b y, b ≠ P0 → hp.get? b = some y → h3.get? b = some y := fun b y hb e => kx b y hb (k02 _ _ e)
  (repeat (first | (with_reducible first | refine wpAny_pure ?_ | refine wpAny_bind ?_ | refine wpAny_holding ?_) | ((fail_if_success ((with_reducible first | show wpAny _ _ (nsGet _ _) _ _ _ | show wpAny _ _ (getAttr? _ _) _ _ _ | show wpAny _ _ (call _ _ _) _ _ _ | show wpAny _ _ (classCode _ _ _ _ _ _) _ _ _ | show wpAny _ _ (builtinsFor _ _) _ _ _ | show wpAny _ _ (enterFrame _) _ _ _ | show wpAny _ _ (storeName _ _ _) _ _ _ | show wpAny _ _ (Sem.onRaise _ _) _ _ _ | show wpAny _ _ (run _) _ _ _ | show wpAny _ _ (loadName _ _) _ _ _ | show wpAny _ _ (closureFor _ _) _ _ _ | show wpAny _ _ (specialOf _ _) _ _ _ | show wpAny _ _ (newBodyFrame _ _ _ _) _ _ _ | show wpAny _ _ (newTextTuple _) _ _ _ | show wpAny _ _ (Sem.load _ _ _) _ _ _))); first | ((with_reducible first | refine wpAny_of_eq KF.sub_tuple ?_ | refine wpAny_of_eq KF.sub_dict ?_ | refine wpAny_of_eq KF.sub_type ?_ | refine wpAny_of_eq KF.type_object ?_)) | wp_delta | wp_step)))
  obtain ⟨bm, o, hbm, hne0, _, hneP, hbo, hcls, hdict, hdata⟩ := hB _ k03
  rw [hgl]
  refine wpAny_builtinsFor (hg _ k03) hbm hne0 hbo hcls hdict hdata ?_
  (repeat (first | (with_reducible first | refine wpAny_pure ?_ | refine wpAny_bind ?_ | refine wpAny_holding ?_) | ((fail_if_success ((with_reducible first | show wpAny _ _ (nsGet _ _) _ _ _ | show wpAny _ _ (getAttr? _ _) _ _ _ | show wpAny _ _ (call _ _ _) _ _ _ | show wpAny _ _ (classCode _ _ _ _ _ _) _ _ _ | show wpAny _ _ (builtinsFor _ _) _ _ _ | show wpAny _ _ (enterFrame _) _ _ _ | show wpAny _ _ (storeName _ _ _) _ _ _ | show wpAny _ _ (Sem.onRaise _ _) _ _ _ | show wpAny _ _ (run _) _ _ _ | show wpAny _ _ (loadName _ _) _ _ _ | show wpAny _ _ (closureFor _ _) _ _ _ | show wpAny _ _ (specialOf _ _) _ _ _ | show wpAny _ _ (newBodyFrame _ _ _ _) _ _ _ | show wpAny _ _ (newTextTuple _) _ _ _ | show wpAny _ _ (Sem.load _ _ _) _ _ _))); first | ((with_reducible first | refine wpAny_of_eq KF.sub_tuple ?_ | refine wpAny_of_eq KF.sub_dict ?_ | refine wpAny_of_eq KF.sub_type ?_ | refine wpAny_of_eq KF.type_object ?_)) | wp_delta | wp_step)))
  unfold newBodyFrame
  refine wpAny_bind (wpAny_nsGet (hg _ k03) ?_)
  (repeat (first | (with_reducible first | refine wpAny_pure ?_ | refine wpAny_bind ?_ | refine wpAny_holding ?_) | ((fail_if_success ((with_reducible first | show wpAny _ _ (nsGet _ _) _ _ _ | show wpAny _ _ (getAttr? _ _) _ _ _ | show wpAny _ _ (call _ _ _) _ _ _ | show wpAny _ _ (classCode _ _ _ _ _ _) _ _ _ | show wpAny _ _ (builtinsFor _ _) _ _ _ | show wpAny _ _ (enterFrame _) _ _ _ | show wpAny _ _ (storeName _ _ _) _ _ _ | show wpAny _ _ (Sem.onRaise _ _) _ _ _ | show wpAny _ _ (run _) _ _ _ | show wpAny _ _ (loadName _ _) _ _ _ | show wpAny _ _ (closureFor _ _) _ _ _ | show wpAny _ _ (specialOf _ _) _ _ _ | show wpAny _ _ (newBodyFrame _ _ _ _) _ _ _ | show wpAny _ _ (newTextTuple _) _ _ _ | show wpAny _ _ (Sem.load _ _ _) _ _ _))); first | ((with_reducible first | refine wpAny_of_eq KF.sub_tuple ?_ | refine wpAny_of_eq KF.sub_dict ?_ | refine wpAny_of_eq KF.sub_type ?_ | refine wpAny_of_eq KF.type_object ?_)) | wp_delta | wp_step)))
  refine wpAny_of_eq hclos ?_
  (repeat (first | (with_reducible first | refine wpAny_pure ?_ | refine wpAny_bind ?_ | refine wpAny_holding ?_) | ((fail_if_success ((with_reducible first | show wpAny _ _ (nsGet _ _) _ _ _ | show wpAny _ _ (getAttr? _ _) _ _ _ | show wpAny _ _ (call _ _ _) _ _ _ | show wpAny _ _ (classCode _ _ _ _ _ _) _ _ _ | show wpAny _ _ (builtinsFor _ _) _ _ _ | show wpAny _ _ (enterFrame _) _ _ _ | show wpAny _ _ (storeName _ _ _) _ _ _ | show wpAny _ _ (Sem.onRaise _ _) _ _ _ | show wpAny _ _ (run _) _ _ _ | show wpAny _ _ (loadName _ _) _ _ _ | show wpAny _ _ (closureFor _ _) _ _ _ | show wpAny _ _ (specialOf _ _) _ _ _ | show wpAny _ _ (newBodyFrame _ _ _ _) _ _ _ | show wpAny _ _ (newTextTuple _) _ _ _ | show wpAny _ _ (Sem.load _ _ _) _ _ _))); first | ((with_reducible first | refine wpAny_of_eq KF.sub_tuple ?_ | refine wpAny_of_eq KF.sub_dict ?_ | refine wpAny_of_eq KF.sub_type ?_ | refine wpAny_of_eq KF.type_object ?_)) | wp_delta | wp_step)))
  have k34 : ∀ b o, h3.get? b = some o → (h3.push { cls := Value.type "frame", slots := #[some (Value.ref c'), some (Value.ref mainGlobals), some (Value.ref N), none, some ((mg (Str.ofString "__name__")).getD Value.none), none, some (Value.ref builtinsNs)] }).get? b = some o := fun b o e => Heap.get?_push_of_some _ e
  have hcode4 := hcode3.push { cls := Value.type "frame", slots := #[some (Value.ref c'), some (Value.ref mainGlobals), some (Value.ref N), none, some ((mg (Str.ofString "__name__")).getD Value.none), none, some (Value.ref builtinsNs)] }
  have htab4 := htabc.push { cls := Value.type "frame", slots := #[some (Value.ref c'), some (Value.ref mainGlobals), some (Value.ref N), none, some ((mg (Str.ofString "__name__")).getD Value.none), none, some (Value.ref builtinsNs)] }
  generalize h3.push { cls := Value.type "frame", slots := #[some (Value.ref c'), some (Value.ref mainGlobals), some (Value.ref N), none, some ((mg (Str.ofString "__name__")).getD Value.none), none, some (Value.ref builtinsNs)] } = h4 at k34 hcode4 htab4 ⊢
  have k04 : ∀ b y, b ≠ P0 → hp.get? b = some y → h4.get? b = some y := fun b y hb e => k34 _ _ (k03 b y hb e)
  have fP' : h2.get? P' = none := by
    cases e : h2.get? P' with
    | none => rfl
    | some y => exact absurd (Heap.lt_size e) (Nat.not_lt.mpr hP')
  have off : ∀ {a : Addr}, h2.get? a = none → hp.get? a = none := fun {a} e => by
    cases e' : hp.get? a with
    | none => rfl
    | some y => rw [k02 _ _ e'] at e; cases e
  have fN0 : hp.get? N = none := by
    cases e' : hp.get? N with
    | none => rfl
    | some y => have fN' : h1.get? N = none := fN; rw [k1' _ _ e'] at fN'; cases fN'
  have BN : N ≠ B := fun e => by have fN' : h1.get? N = none := fN; rw [e, eB] at fN'; cases fN'
  have BP0 : B ≠ P0 := fun e => by rw [e] at fB; rw [htab.2] at fB; cases fB
  have NP0 : N ≠ P0 := fun e => by rw [e] at fN0; rw [htab.2] at fN0; cases fN0
  have BP' : B ≠ P' := fun e => by have := k2 _ _ eB; rw [e] at this; rw [fP'] at this; cases this
  have NP' : N ≠ P' := fun e => by have : h2.get? N = some _ := eN; rw [e, fP'] at this; cases this
  have PP0 : P' ≠ P0 := fun e => by rw [e] at fP'; rw [k02 _ _ htab.2] at fP'; cases fP'
  have T0 : CS (Fz.add (fun b => if b = P0 then some (X.tableObj (ps0 ++ #[rawInt pos.line, rawInt pos.col, .ref c'])) else hp.get? b) B { cls := .type "tuple", data := .seq #[.type "object"] }) h4 N P' ⟨.type "dict", none, .dict #[] 0, #[]⟩ c' #[] := by
    refine ⟨fun b x e => ?_, k34 _ _ (kx _ _ NP0 eN), rfl, ⟨_, _, rfl⟩, hcode4, htab4, NP', ?_, ?_⟩
    · rcases Fz.add_cases e with ⟨rfl, rfl⟩ | e
      · exact k34 _ _ (kx _ _ BP0 (k2 _ _ eB))
      · by_cases hb : b = P0
        · rw [if_pos hb] at e; cases e; subst hb; exact k34 _ _ htab3.2
        · rw [if_neg hb] at e; exact k04 _ _ hb e
    · simp [Fz.add, BN, fN0, NP0]
    · simp [Fz.add, Ne.symm BP', off fP', PP0]
  generalize h3.objs.size = fr
  refine wpAny_enterFrame (hlim _ k04) (by have := hA.depth; have e : recursionLimit = 1000 := rfl; (first | exact ar55 this e | (first | lia | omega))) ?_
  (repeat (first | (with_reducible first | refine wpAny_pure ?_ | refine wpAny_bind ?_ | refine wpAny_holding ?_) | ((fail_if_success ((with_reducible first | show wpAny _ _ (nsGet _ _) _ _ _ | show wpAny _ _ (getAttr? _ _) _ _ _ | show wpAny _ _ (call _ _ _) _ _ _ | show wpAny _ _ (classCode _ _ _ _ _ _) _ _ _ | show wpAny _ _ (builtinsFor _ _) _ _ _ | show wpAny _ _ (enterFrame _) _ _ _ | show wpAny _ _ (storeName _ _ _) _ _ _ | show wpAny _ _ (Sem.onRaise _ _) _ _ _ | show wpAny _ _ (run _) _ _ _ | show wpAny _ _ (loadName _ _) _ _ _ | show wpAny _ _ (closureFor _ _) _ _ _ | show wpAny _ _ (specialOf _ _) _ _ _ | show wpAny _ _ (newBodyFrame _ _ _ _) _ _ _ | show wpAny _ _ (newTextTuple _) _ _ _ | show wpAny _ _ (Sem.load _ _ _) _ _ _))); first | ((with_reducible first | refine wpAny_of_eq KF.sub_tuple ?_ | refine wpAny_of_eq KF.sub_dict ?_ | refine wpAny_of_eq KF.sub_type ?_ | refine wpAny_of_eq KF.type_object ?_)) | wp_delta | wp_step)))
  refine wpAny_onRaise ?_
  (repeat (first | (with_reducible first | refine wpAny_pure ?_ | refine wpAny_bind ?_ | refine wpAny_holding ?_) | ((fail_if_success ((with_reducible first | show wpAny _ _ (nsGet _ _) _ _ _ | show wpAny _ _ (getAttr? _ _) _ _ _ | show wpAny _ _ (call _ _ _) _ _ _ | show wpAny _ _ (classCode _ _ _ _ _ _) _ _ _ | show wpAny _ _ (builtinsFor _ _) _ _ _ | show wpAny _ _ (enterFrame _) _ _ _ | show wpAny _ _ (storeName _ _ _) _ _ _ | show wpAny _ _ (Sem.onRaise _ _) _ _ _ | show wpAny _ _ (run _) _ _ _ | show wpAny _ _ (loadName _ _) _ _ _ | show wpAny _ _ (closureFor _ _) _ _ _ | show wpAny _ _ (specialOf _ _) _ _ _ | show wpAny _ _ (newBodyFrame _ _ _ _) _ _ _ | show wpAny _ _ (newTextTuple _) _ _ _ | show wpAny _ _ (Sem.load _ _ _) _ _ _))); first | ((with_reducible first | refine wpAny_of_eq KF.sub_tuple ?_ | refine wpAny_of_eq KF.sub_dict ?_ | refine wpAny_of_eq KF.sub_type ?_ | refine wpAny_of_eq KF.type_object ?_)) | wp_delta | wp_step)))
  refine cs_load T0 rfl hkind hn0 (by decide +kernel) (by kernel_rfl!) rfl (hg _ k04) hmn ?_
  (repeat (first | (with_reducible first | refine wpAny_pure ?_ | refine wpAny_bind ?_ | refine wpAny_holding ?_) | ((fail_if_success ((with_reducible first | show wpAny _ _ (nsGet _ _) _ _ _ | show wpAny _ _ (getAttr? _ _) _ _ _ | show wpAny _ _ (call _ _ _) _ _ _ | show wpAny _ _ (classCode _ _ _ _ _ _) _ _ _ | show wpAny _ _ (builtinsFor _ _) _ _ _ | show wpAny _ _ (enterFrame _) _ _ _ | show wpAny _ _ (storeName _ _ _) _ _ _ | show wpAny _ _ (Sem.onRaise _ _) _ _ _ | show wpAny _ _ (run _) _ _ _ | show wpAny _ _ (loadName _ _) _ _ _ | show wpAny _ _ (closureFor _ _) _ _ _ | show wpAny _ _ (specialOf _ _) _ _ _ | show wpAny _ _ (newBodyFrame _ _ _ _) _ _ _ | show wpAny _ _ (newTextTuple _) _ _ _ | show wpAny _ _ (Sem.load _ _ _) _ _ _))); first | ((with_reducible first | refine wpAny_of_eq KF.sub_tuple ?_ | refine wpAny_of_eq KF.sub_dict ?_ | refine wpAny_of_eq KF.sub_type ?_ | refine wpAny_of_eq KF.type_object ?_)) | wp_delta | wp_step)))
  refine cs_store (es' := fun i k => #[⟨i, .str "__module__" k, v0⟩]) (ep' := 1) T0 rfl hkind (.inl hn1) (by kernel_rfl!) (fun i k => by kernel_rfl!) (fun h5 i0 k0 t5 T1 => ?_)
  (repeat (first | (with_reducible first | refine wpAny_pure ?_ | refine wpAny_bind ?_ | refine wpAny_holding ?_) | ((fail_if_success ((with_reducible first | show wpAny _ _ (nsGet _ _) _ _ _ | show wpAny _ _ (getAttr? _ _) _ _ _ | show wpAny _ _ (call _ _ _) _ _ _ | show wpAny _ _ (classCode _ _ _ _ _ _) _ _ _ | show wpAny _ _ (builtinsFor _ _) _ _ _ | show wpAny _ _ (enterFrame _) _ _ _ | show wpAny _ _ (storeName _ _ _) _ _ _ | show wpAny _ _ (Sem.onRaise _ _) _ _ _ | show wpAny _ _ (run _) _ _ _ | show wpAny _ _ (loadName _ _) _ _ _ | show wpAny _ _ (closureFor _ _) _ _ _ | show wpAny _ _ (specialOf _ _) _ _ _ | show wpAny _ _ (newBodyFrame _ _ _ _) _ _ _ | show wpAny _ _ (newTextTuple _) _ _ _ | show wpAny _ _ (Sem.load _ _ _) _ _ _))); first | ((with_reducible first | refine wpAny_of_eq KF.sub_tuple ?_ | refine wpAny_of_eq KF.sub_dict ?_ | refine wpAny_of_eq KF.sub_type ?_ | refine wpAny_of_eq KF.type_object ?_)) | wp_delta | wp_step)))
  refine cs_store (es' := fun i k => #[⟨i0, .str "__module__" k0, v0⟩, ⟨i, .str "__qualname__" k, .str "cmp_to_key.<locals>.K" t5⟩]) (ep' := 2) T1 rfl hkind (.inr ⟨hn2, by decide +kernel⟩) (by kernel_rfl!) (fun i k => by kernel_rfl!) (fun h6 i1 k1 t6 T2 => ?_)
  (repeat (first | (with_reducible first | refine wpAny_pure ?_ | refine wpAny_bind ?_ | refine wpAny_holding ?_) | ((fail_if_success ((with_reducible first | show wpAny _ _ (nsGet _ _) _ _ _ | show wpAny _ _ (getAttr? _ _) _ _ _ | show wpAny _ _ (call _ _ _) _ _ _ | show wpAny _ _ (classCode _ _ _ _ _ _) _ _ _ | show wpAny _ _ (builtinsFor _ _) _ _ _ | show wpAny _ _ (enterFrame _) _ _ _ | show wpAny _ _ (storeName _ _ _) _ _ _ | show wpAny _ _ (Sem.onRaise _ _) _ _ _ | show wpAny _ _ (run _) _ _ _ | show wpAny _ _ (loadName _ _) _ _ _ | show wpAny _ _ (closureFor _ _) _ _ _ | show wpAny _ _ (specialOf _ _) _ _ _ | show wpAny _ _ (newBodyFrame _ _ _ _) _ _ _ | show wpAny _ _ (newTextTuple _) _ _ _ | show wpAny _ _ (Sem.load _ _ _) _ _ _))); first | ((with_reducible first | refine wpAny_of_eq KF.sub_tuple ?_ | refine wpAny_of_eq KF.sub_dict ?_ | refine wpAny_of_eq KF.sub_type ?_ | refine wpAny_of_eq KF.type_object ?_)) | wp_delta | wp_step)))
  refine cs_store (es' := fun i k => #[⟨i0, .str "__module__" k0, v0⟩, ⟨i1, .str "__qualname__" k1, .str "cmp_to_key.<locals>.K" t5⟩, ⟨i, .str "__firstlineno__" k, .int fl t6⟩]) (ep' := 3) T2 rfl hkind (.inr ⟨hn3, by decide +kernel⟩) (by kernel_rfl!) (fun i k => by kernel_rfl!) (fun h7 i2 k2 t7 T3 => ?_)
  (repeat (first | (with_reducible first | refine wpAny_pure ?_ | refine wpAny_bind ?_ | refine wpAny_holding ?_) | ((fail_if_success ((with_reducible first | show wpAny _ _ (nsGet _ _) _ _ _ | show wpAny _ _ (getAttr? _ _) _ _ _ | show wpAny _ _ (call _ _ _) _ _ _ | show wpAny _ _ (classCode _ _ _ _ _ _) _ _ _ | show wpAny _ _ (builtinsFor _ _) _ _ _ | show wpAny _ _ (enterFrame _) _ _ _ | show wpAny _ _ (storeName _ _ _) _ _ _ | show wpAny _ _ (Sem.onRaise _ _) _ _ _ | show wpAny _ _ (run _) _ _ _ | show wpAny _ _ (loadName _ _) _ _ _ | show wpAny _ _ (closureFor _ _) _ _ _ | show wpAny _ _ (specialOf _ _) _ _ _ | show wpAny _ _ (newBodyFrame _ _ _ _) _ _ _ | show wpAny _ _ (newTextTuple _) _ _ _ | show wpAny _ _ (Sem.load _ _ _) _ _ _))); first | ((with_reducible first | refine wpAny_of_eq KF.sub_tuple ?_ | refine wpAny_of_eq KF.sub_dict ?_ | refine wpAny_of_eq KF.sub_type ?_ | refine wpAny_of_eq KF.type_object ?_)) | wp_delta | wp_step)))
  refine wpAny_run (codeAny_mono (hrun B N c' P' fr h7 t7 i0 i1 i2 k0 k1 k2 t5 t6 T3 fB (off fP')) fun r s' q => ?_)
  obtain ⟨F', h8, t8, ps', SL, f0, f1, f2, f3, f4, f5, i3, i4, i5, i6, i7, i8, i9, i10, k3, k4, k5, k6, k7, k8, k9, k10, tm, rfl, rfl, T4, be⟩ := q
  (repeat (first | (with_reducible first | refine wpAny_pure ?_ | refine wpAny_bind ?_ | refine wpAny_holding ?_) | ((fail_if_success ((with_reducible first | show wpAny _ _ (nsGet _ _) _ _ _ | show wpAny _ _ (getAttr? _ _) _ _ _ | show wpAny _ _ (call _ _ _) _ _ _ | show wpAny _ _ (classCode _ _ _ _ _ _) _ _ _ | show wpAny _ _ (builtinsFor _ _) _ _ _ | show wpAny _ _ (enterFrame _) _ _ _ | show wpAny _ _ (storeName _ _ _) _ _ _ | show wpAny _ _ (Sem.onRaise _ _) _ _ _ | show wpAny _ _ (run _) _ _ _ | show wpAny _ _ (loadName _ _) _ _ _ | show wpAny _ _ (closureFor _ _) _ _ _ | show wpAny _ _ (specialOf _ _) _ _ _ | show wpAny _ _ (newBodyFrame _ _ _ _) _ _ _ | show wpAny _ _ (newTextTuple _) _ _ _ | show wpAny _ _ (Sem.load _ _ _) _ _ _))); first | ((with_reducible first | refine wpAny_of_eq KF.sub_tuple ?_ | refine wpAny_of_eq KF.sub_dict ?_ | refine wpAny_of_eq KF.sub_type ?_ | refine wpAny_of_eq KF.type_object ?_)) | wp_delta | wp_step)))
  refine wpAny_onRaise ?_
  (repeat (first | (with_reducible first | refine wpAny_pure ?_ | refine wpAny_bind ?_ | refine wpAny_holding ?_) | ((fail_if_success ((with_reducible first | show wpAny _ _ (nsGet _ _) _ _ _ | show wpAny _ _ (getAttr? _ _) _ _ _ | show wpAny _ _ (call _ _ _) _ _ _ | show wpAny _ _ (classCode _ _ _ _ _ _) _ _ _ | show wpAny _ _ (builtinsFor _ _) _ _ _ | show wpAny _ _ (enterFrame _) _ _ _ | show wpAny _ _ (storeName _ _ _) _ _ _ | show wpAny _ _ (Sem.onRaise _ _) _ _ _ | show wpAny _ _ (run _) _ _ _ | show wpAny _ _ (loadName _ _) _ _ _ | show wpAny _ _ (closureFor _ _) _ _ _ | show wpAny _ _ (specialOf _ _) _ _ _ | show wpAny _ _ (newBodyFrame _ _ _ _) _ _ _ | show wpAny _ _ (newTextTuple _) _ _ _ | show wpAny _ _ (Sem.load _ _ _) _ _ _))); first | ((with_reducible first | refine wpAny_of_eq KF.sub_tuple ?_ | refine wpAny_of_eq KF.sub_dict ?_ | refine wpAny_of_eq KF.sub_type ?_ | refine wpAny_of_eq KF.type_object ?_)) | wp_delta | wp_step)))
  refine wpAny_newTextTuple ?_
  show wpAny _ _ _ _ _ ⟨h8.push { cls := .type "tuple", data := .seq #[.str "obj" t8] }, _, _, _, _⟩
  have T5 := T4.push { cls := .type "tuple", data := .seq #[.str "obj" t8] } rfl
  have leST : LeZ F' (Fz.add F' h8.objs.size { cls := .type "tuple", data := .seq #[.str "obj" t8] }) := Fz.le_add (T4.off (get?_size _))
  generalize h8.push { cls := .type "tuple", data := .seq #[.str "obj" t8] } = h9 at T5 ⊢
  generalize h8.objs.size = ST at T5 leST ⊢
  (repeat (first | (with_reducible first | refine wpAny_pure ?_ | refine wpAny_bind ?_ | refine wpAny_holding ?_) | ((fail_if_success ((with_reducible first | show wpAny _ _ (nsGet _ _) _ _ _ | show wpAny _ _ (getAttr? _ _) _ _ _ | show wpAny _ _ (call _ _ _) _ _ _ | show wpAny _ _ (classCode _ _ _ _ _ _) _ _ _ | show wpAny _ _ (builtinsFor _ _) _ _ _ | show wpAny _ _ (enterFrame _) _ _ _ | show wpAny _ _ (storeName _ _ _) _ _ _ | show wpAny _ _ (Sem.onRaise _ _) _ _ _ | show wpAny _ _ (run _) _ _ _ | show wpAny _ _ (loadName _ _) _ _ _ | show wpAny _ _ (closureFor _ _) _ _ _ | show wpAny _ _ (specialOf _ _) _ _ _ | show wpAny _ _ (newBodyFrame _ _ _ _) _ _ _ | show wpAny _ _ (newTextTuple _) _ _ _ | show wpAny _ _ (Sem.load _ _ _) _ _ _))); first | ((with_reducible first | refine wpAny_of_eq KF.sub_tuple ?_ | refine wpAny_of_eq KF.sub_dict ?_ | refine wpAny_of_eq KF.sub_type ?_ | refine wpAny_of_eq KF.type_object ?_)) | wp_delta | wp_step)))
  refine cs_store (es' := fun i k => #[⟨i0, .str "__module__" k0, .str "cpy313.functools" tm⟩, ⟨i1, .str "__qualname__" k1, .str "cmp_to_key.<locals>.K" t5⟩, ⟨i2, .str "__firstlineno__" k2, .int fl t6⟩, ⟨i3, .str "__slots__" k3, .ref SL⟩, ⟨i4, .str "__init__" k4, .ref f0⟩, ⟨i5, .str "__lt__" k5, .ref f1⟩, ⟨i6, .str "__gt__" k6, .ref f2⟩, ⟨i7, .str "__eq__" k7, .ref f3⟩, ⟨i8, .str "__le__" k8, .ref f4⟩, ⟨i9, .str "__ge__" k9, .ref f5⟩, ⟨i10, .str "__hash__" k10, .none⟩, ⟨i, .str "__static_attributes__" k, .ref ST⟩]) (ep' := 12) T5 rfl hkind (.inr ⟨hn4, by decide +kernel⟩) (by kernel_rfl!) (fun i k => by kernel_rfl!) (fun h10 i11 k11 t10 T6 => ?_)
  (repeat (first | (with_reducible first | refine wpAny_pure ?_ | refine wpAny_bind ?_ | refine wpAny_holding ?_) | ((fail_if_success ((with_reducible first | show wpAny _ _ (nsGet _ _) _ _ _ | show wpAny _ _ (getAttr? _ _) _ _ _ | show wpAny _ _ (call _ _ _) _ _ _ | show wpAny _ _ (classCode _ _ _ _ _ _) _ _ _ | show wpAny _ _ (builtinsFor _ _) _ _ _ | show wpAny _ _ (enterFrame _) _ _ _ | show wpAny _ _ (storeName _ _ _) _ _ _ | show wpAny _ _ (Sem.onRaise _ _) _ _ _ | show wpAny _ _ (run _) _ _ _ | show wpAny _ _ (loadName _ _) _ _ _ | show wpAny _ _ (closureFor _ _) _ _ _ | show wpAny _ _ (specialOf _ _) _ _ _ | show wpAny _ _ (newBodyFrame _ _ _ _) _ _ _ | show wpAny _ _ (newTextTuple _) _ _ _ | show wpAny _ _ (Sem.load _ _ _) _ _ _))); first | ((with_reducible first | refine wpAny_of_eq KF.sub_tuple ?_ | refine wpAny_of_eq KF.sub_dict ?_ | refine wpAny_of_eq KF.sub_type ?_ | refine wpAny_of_eq KF.type_object ?_)) | wp_delta | wp_step)))
  have lo : ∀ b y, F' b = some y → h10.get? b = some y := fun b y e => T6.keep b y (leST b y e)
  have lo0 : ∀ b y, (if b = P0 then some (X.tableObj (ps0 ++ #[rawInt pos.line, rawInt pos.col, .ref c'])) else hp.get? b) = some y → h10.get? b = some y := fun b y e =>
    lo b y (be.le b y (Fz.le_add (Z := fun b => if b = P0 then some (X.tableObj (ps0 ++ #[rawInt pos.line, rawInt pos.col, .ref c'])) else hp.get? b) (by simp [BP0, fB]) b y e))
  have base : ∀ b y, b ≠ P0 → hp.get? b = some y → h10.get? b = some y := fun b y hb e => lo0 b y (by rw [if_neg hb]; exact e)
  have hP10 : h10.get? P0 = some (X.tableObj (ps0 ++ #[rawInt pos.line, rawInt pos.col, .ref c'])) := lo0 P0 _ (if_pos rfl)
  have off10 : ∀ {a : Addr}, h10.get? a = none → hp.get? a = none := fun {a} e => by
    cases e' : hp.get? a with
    | none => rfl
    | some y =>
      by_cases hb : a = P0
      · rw [hb, hP10] at e; cases e
      · rw [base _ _ hb e'] at e; cases e
  obtain ⟨oS, hS1, hS2⟩ := hS
  obtain ⟨ts, nSL, hSL⟩ := be.slots
  show wpAny _ _ (call (Value.type "type") [Value.str (Str.ofString "K") t, Value.ref B, Value.ref N] []) _ _ _
  refine type_call2 (type_new hA2 hA3 (s := ⟨h10, g, d, t10, os⟩) (lo _ _ (be.le _ _ (Fz.add_self ..))) T6.nsAt (lo _ _ hSL) hN1 ⟨oS, base _ _ hSP hS1, hS2⟩ (fun f hf => let ⟨o, h1, h2⟩ := be.fns f hf; ⟨o, lo _ _ h1, h2⟩) ⟨_, T6.keep _ _ (Fz.add_self ..), rfl⟩
      (fun h' t' C ns md i12 k12 i13 k13 a1 a2 a3 a4 a5 a6 a7 a8 a9 a10 => ?_))
  show _ ∧ _
  refine ⟨⟨_, a8, rfl⟩, ?_⟩
  (repeat (first | (with_reducible first | refine wpAny_pure ?_ | refine wpAny_bind ?_ | refine wpAny_holding ?_) | ((fail_if_success ((with_reducible first | show wpAny _ _ (nsGet _ _) _ _ _ | show wpAny _ _ (getAttr? _ _) _ _ _ | show wpAny _ _ (call _ _ _) _ _ _ | show wpAny _ _ (classCode _ _ _ _ _ _) _ _ _ | show wpAny _ _ (builtinsFor _ _) _ _ _ | show wpAny _ _ (enterFrame _) _ _ _ | show wpAny _ _ (storeName _ _ _) _ _ _ | show wpAny _ _ (Sem.onRaise _ _) _ _ _ | show wpAny _ _ (run _) _ _ _ | show wpAny _ _ (loadName _ _) _ _ _ | show wpAny _ _ (closureFor _ _) _ _ _ | show wpAny _ _ (specialOf _ _) _ _ _ | show wpAny _ _ (newBodyFrame _ _ _ _) _ _ _ | show wpAny _ _ (newTextTuple _) _ _ _ | show wpAny _ _ (Sem.load _ _ _) _ _ _))); first | ((with_reducible first | refine wpAny_of_eq KF.sub_tuple ?_ | refine wpAny_of_eq KF.sub_dict ?_ | refine wpAny_of_eq KF.sub_type ?_ | refine wpAny_of_eq KF.type_object ?_)) | wp_delta | wp_step)))
  exact hQ h' t' F' C ns md B SL ST f0 f1 f2 f3 f4 f5 t t5 tm t6 i0 i2 i3 i4 i5 i6 i7 i8 i9 i10 i11 i12 i13 k0 k2 k3 k4 k5 k6 k7 k8 k9 k10 k11 k12 k13 (fun b y hb e => a1 _ _ (base b y hb e)) ⟨_, a1 _ _ hP10⟩ (fun a o e => a1 _ _ (lo a o e)) be.good (off10 a2) (off10 a3) (off10 a4) a5 a6 a7 a8 a9 a10
end Mq
set_option tactic.hygienic false
namespace Mq
open PySem PySem.Spec PySem.Calls PyProof.Rows PySem.W PySem.W.X
variable {w : World} {Z0 : Fz} {mg mb : Str → Option Value}
noncomputable def clsBody (w : World) : List Stmt := match (hK w).lookup 21 with
  | some o => match o.data with
    | .func fd => match fd.body with
      | .stmts (.ClassDef _ _ _ b _ _ _ _ _ _ _ :: _) => b
      | _ => []
    | _ => []
  | none => []
noncomputable def clsDef (w : World) (i : Nat) : Arguments × List Stmt × Scope := match (clsBody w)[i]? with
  | some (.FunctionDef _ p b _ _ _ sc _ _ _) => (p, b, sc)
  | _ => (default, [], default)
abbrev kq (name : String) : Str := (Str.ofString "cmp_to_key.<locals>.K" ++ Str.ofString ".") ++ Str.ofString name
/-- one of the class's methods -/
noncomputable def mthC (w : World) (F : Fz) (cm f cc : Addr) (name : String) (i : Nat) : Prop := CloC F f cc name (kq name) (clsDef w i).1 (clsDef w i).2.1 (clsDef w i).2.2 [(Str.ofString "mycmp", cm)]
noncomputable def iniC (w : World) (F : Fz) (f cc : Addr) : Prop := DefC F f cc "__init__" (kq "__init__") (clsDef w 2).1 (clsDef w 2).2.1 (clsDef w 2).2.2
inductive mthsD (w : World) (h0 : Heap) (cm : Addr) (F : Fz) (f0 f1 f2 f3 f4 f5 : Addr) : Prop
  | mk (c0 c1 c2 c3 c4 c5 : Addr)
    (_ : ∀ a ∈ [f0, f1, f2, f3, f4, f5, c0, c1, c2, c3, c4, c5], h0.get? a = none)
    (_ : iniC w F f0 c0)
    (_ : mthC w F cm f1 c1 "__lt__" 3)
    (_ : mthC w F cm f2 c2 "__gt__" 4)
    (_ : mthC w F cm f3 c3 "__eq__" 5)
    (_ : mthC w F cm f4 c4 "__le__" 6)
    (_ : mthC w F cm f5 c5 "__ge__" 7)
    : mthsD w h0 cm F f0 f1 f2 f3 f4 f5
noncomputable def mths (w : World) (h0 : Heap) (cm : Addr) (F : Fz) (fs : List Addr) : Prop := mthsD w h0 cm F (fs.getD 0 0) (fs.getD 1 0) (fs.getD 2 0) (fs.getD 3 0) (fs.getD 4 0) (fs.getD 5 0)
theorem CloC.fnc {F : Fz} {g cc : Addr} {name q : Str} {params : Arguments} {body : List Stmt} {scope : Scope} {cl : List (Str × Addr)} (x : CloC F g cc name q params body scope cl) : ∃ o, F g = some o ∧ o.cls = .type "function" := by obtain ⟨_, _, _, _, _, e, _⟩ := x; exact ⟨_, e, rfl⟩
theorem DefC.fnc {F : Fz} {g cc : Addr} {name q : Str} {params : Arguments} {body : List Stmt} {scope : Scope} (x : DefC F g cc name q params body scope) : ∃ o, F g = some o ∧ o.cls = .type "function" := by obtain ⟨_, _, _, _, e, _⟩ := x; exact ⟨_, e, rfl⟩
theorem CloC.up {F F' : Fz} {g cc : Addr} {name q : Str} {params : Arguments} {body : List Stmt} {scope : Scope} {cl : List (Str × Addr)} (x : CloC F g cc name q params body scope cl) (h1 : ∀ o, F g = some o → ¬ Tb o → F' g = some o) (h2 : ∀ o, F cc = some o → ¬ Tb o → F' cc = some o) : CloC F' g cc name q params body scope cl :=
  by obtain ⟨T, pm, co, vs, t, e1, e2, e3, e4, e5⟩ := x; exact ⟨T, pm, co, vs, t, h1 _ e1 (Tb.ty rfl), h2 _ e2 (Tb.ty e3), e3, e4, e5⟩
theorem DefC.up {F F' : Fz} {g cc : Addr} {name q : Str} {params : Arguments} {body : List Stmt} {scope : Scope} (x : DefC F g cc name q params body scope) (h1 : ∀ o, F g = some o → ¬ Tb o → F' g = some o) (h2 : ∀ o, F cc = some o → ¬ Tb o → F' cc = some o) : DefC F' g cc name q params body scope :=
  by obtain ⟨pm, co, vs, t, e1, e2, e3, e4, e5⟩ := x; exact ⟨pm, co, vs, t, h1 _ e1 (Tb.ty rfl), h2 _ e2 (Tb.ty e3), e3, e4, e5⟩
noncomputable def newZ (h0 h : Heap) (Z : Fz) : Fz := fun a => match h0.get? a with
  | none => snapZ h a
  | some _ => Z a
theorem newZ_new {h0 h : Heap} {Z : Fz} {a : Addr} {o : Obj} (e0 : h0.get? a = none) (e : h.get? a = some o) (n : ¬ Tb o) : newZ h0 h Z a = some o := by simp only [newZ, e0]; exact snapZ_some e n
theorem newZ_le {h0 h : Heap} {Z : Fz} (hi : InH Z h0) : LeZ Z (newZ h0 h Z) := fun a o e => by simp only [newZ, hi.get e]; exact e
theorem newZ_in {h0 h : Heap} {Z : Fz} (hi : InH Z h0) (k : ∀ b y, Z b = some y → h.get? b = some y) : InH (newZ h0 h Z) h := fun a o e => by
  cases q : h0.get? a with
  | none => simp only [newZ, q] at e; exact snapZ_in h a o e
  | some y => simp only [newZ, q] at e; exact ⟨k a o e, hi.nt e⟩
/-- the class that was made -/
inductive KCls (w : World) (Z : Fz) (C : Addr) (v : Value) : Prop
  | mk (ns md B SL ST f0 f1 f2 f3 f4 f5 c0 c1 c2 c3 c4 c5 cm : Addr) (oc : Obj) (t3 tq tm tl tb : Tok) (i0 i2 i3 i4 i5 i6 i7 i8 i9 i10 i11 i12 i13 : Int) (k0 k2 k3 k4 k5 k6 k7 k8 k9 k10 k11 k12 k13 : Tok)
    (_ : Z C = some ⟨Value.type "type", none, Data.cls { name := "K", bases := [.type "object"], mro := [.ref C, .type "object"], ns := ns, qualname := "cmp_to_key.<locals>.K", hasDict := false, slotNames := ["obj"] }, #[some (.ref B), none, some (.str "K" t3), some (.str "cmp_to_key.<locals>.K" tq), some (.builtin "object.__new__"), some (.bool false)]⟩)
    (_ : Z ns = some ⟨.type "dict", none, .dict #[⟨i0, .str "__module__" k0, .str "cpy313.functools" tm⟩, ⟨i2, .str "__firstlineno__" k2, .int 4 tl⟩, ⟨i3, .str "__slots__" k3, .ref SL⟩, ⟨i4, .str "__init__" k4, .ref f0⟩, ⟨i5, .str "__lt__" k5, .ref f1⟩, ⟨i6, .str "__gt__" k6, .ref f2⟩, ⟨i7, .str "__eq__" k7, .ref f3⟩, ⟨i8, .str "__le__" k8, .ref f4⟩, ⟨i9, .str "__ge__" k9, .ref f5⟩, ⟨i10, .str "__hash__" k10, .none⟩, ⟨i11, .str "__static_attributes__" k11, .ref ST⟩, ⟨i12, .str "obj" k12, .ref md⟩, ⟨i13, .str "__doc__" k13, .none⟩] 3, #[]⟩)
    (_ : Z md = some { cls := Value.type "member_descriptor", data := Data.fields #[Value.str (Str.ofString "obj") tb, Value.ref C, Value.builtin "proto.slot", Value.builtin "proto.slot#set", .int 0 0] })
    (_ : iniC w Z f0 c0)
    (_ : mthC w Z cm f1 c1 "__lt__" 3)
    (_ : mthC w Z cm f2 c2 "__gt__" 4)
    (_ : mthC w Z cm f3 c3 "__eq__" 5)
    (_ : mthC w Z cm f4 c4 "__le__" 6)
    (_ : mthC w Z cm f5 c5 "__ge__" 7)
    (_ : Z cm = some oc)
    (_ : oc.data = .cell (some v))
    : KCls w Z C v
theorem Kit.isCode20 (K : Kit w Z0 mg mb) {h : Heap} (hi : InH Z0 h) (ht : h.get? 16 = some (X.tableObj #[])) : h.IsCode 20 16 #[] ∧ h.TableAt 20 16 #[] :=
  ⟨⟨_, _, _, _, _, _, _, _, _, _, hi.get (K.topT 20 _ rfl rfl), rfl, rfl, rfl, rfl, rfl, rfl, ht, rfl, trivial, by decide⟩, ⟨_, _, hi.get (K.topT 20 _ rfl rfl), rfl, rfl, rfl⟩, ht⟩
theorem Kit.bmodN (K : Kit w Z0 mg mb) {h h' : Heap} (hi : InH Z0 h) (hi' : InH Z0 h') {P : Addr} (hP : h.get? P = none) : h'.BuiltinsAt mg P := by
  obtain ⟨bm, o, hbm, h0, h1, h2, hbo, r⟩ := K.bmod hi' (P := 16) (.inl rfl)
  obtain ⟨bm', o', hbm', h0', h1', h2', hbo', r'⟩ := K.bmod hi (P := 16) (.inl rfl)
  rw [hbm] at hbm'; cases hbm'
  exact ⟨bm, o, hbm, h0, h1, (by rintro rfl; rw [hP] at hbo'; cases hbo'), hbo, r⟩
theorem code_cmpkey (K : Kit w Z0 mg mb) {Z : Fz} {s : Shared} {A : Around} {v : Value} (r : Room A 150) (hle : LeZ Z0 Z) (hi : InH Z s.heap) (ht : s.heap.get? 16 = some (X.tableObj #[])) (hsm : ∃ o, Z0 sysModules = some o) (hcs : ∃ o, Z0 cStatics = some o ∧ nsLook "thirdparty.any" o = pure none) :
    codeAny (model prg w) A (.call (.ref 21) ⟨[v], []⟩) (fun r s' => ∃ C Z' ps, r = .ok (.ret (.ref C)) ∧ Mv [16] s Z s' Z' ∧ s'.heap.get? 16 = some (X.tableObj ps) ∧ KCls w Z' C v) s := by
  have h0 : InH Z0 s.heap := hi.of_le hle
  have hc := K.isCode20 h0 ht
  have z16 : Z0 16 = none := by
    cases q : Z0 16 with
    | none => rfl
    | some o => have := h0.get q; rw [ht] at this; cases this; exact absurd (Tb.table _) (h0.nt q)
  refine codeAny_call_cells (binds := [("mycmp", v)]) (by have := r.depth; (first | exact ar56 this | (first | lia | omega))) (h0.get (K.topT 21 _ rfl rfl)) rfl (K.base.lim _ h0) (K.codeT (c := 20) rfl rfl rfl rfl _ h0) rfl rfl rfl (fun y hy => ?_) (fun s₁ ic => ?_) rfl rfl rfl
  · simp at hy; subst hy; exact .inr ⟨rfl, rfl⟩
  refine wpAny_execs_cons ?_
  generalize hL : s.heap.objs.size = L at *
  have keep₁ := ic.toInCall.keep
  have hLn : s.heap.get? L = none := hL ▸ get?_size _
  have hcell : s₁.heap.IsCell (L + 1) (some v) := by
    have := ic.cell "mycmp" (L + 1) rfl
    rwa [bindC_mem (r := [("mycmp", v)]) (x := "mycmp") (v := v) (by simp) (by simp) (fun q => nomatch (show some NameKind.cell = some NameKind.local from q))] at this
  obtain ⟨hh, tk₀, rfl⟩ := ic.toInCall.same
  have hk0 := hc.1.keeps keep₁
  have ht0 := hc.2.keeps keep₁
  have bx : mb "__build_class__" = some (.builtin "__build_class__") := (K.blt _ (by decide)).trans rfl
  have bo : mb "object" = some (.type "object") := (K.blt _ (by decide)).trans rfl
  have h01 : InH Z0 hh := h0.keeps (Old.of keep₁).kp
  have inF : ∀ h' : Heap, (∀ b y, b ≠ 16 → hh.get? b = some y → h'.get? b = some y) → InH Z0 h' := fun h' k a o e => ⟨k a o (by rintro rfl; rw [z16] at e; cases e) (h01.get e), h01.nt e⟩
  generalize henv : callEnvC _ L 21 = env
  repeat (first | (with_reducible first | refine wpAny_pure ?_ | refine wpAny_bind ?_ | refine wpAny_holding ?_) | ((fail_if_success ((with_reducible first | show wpAny _ _ (nsGet _ _) _ _ _ | show wpAny _ _ (buildClass _ _ _ _ _ _ _ _ _ _ _) _ _ _ | show wpAny _ _ (evalArgs _ _ _ _) _ _ _ | show wpAny _ _ (storeName _ _ _) _ _ _))); first | wp_delta | wp_step))
  refine wpAny_nsGet (m := mb) (by rw [← henv]; exact K.base.b _ h01) ?_
  rw [bx]
  repeat (first | (with_reducible first | refine wpAny_pure ?_ | refine wpAny_bind ?_ | refine wpAny_holding ?_) | ((fail_if_success ((with_reducible first | show wpAny _ _ (nsGet _ _) _ _ _ | show wpAny _ _ (buildClass _ _ _ _ _ _ _ _ _ _ _) _ _ _ | show wpAny _ _ (evalArgs _ _ _ _) _ _ _ | show wpAny _ _ (storeName _ _ _) _ _ _))); first | wp_delta | wp_step))
  refine evalArgs_plain (spliced_cons (wpAny_Name ?_ (by decide)))
  rw [loadName_read (by rw [← henv]; rfl) (by rw [← henv]; rfl)]
  unfold loadGlobal
  refine wpAny_bind (wpAny_nsGet (m := mg) (by rw [← henv]; exact K.base.g _ h01) ?_)
  rw [K.gnone "object" rfl]
  refine wpAny_bind (wpAny_nsGet (m := mb) (by rw [← henv]; exact K.base.b _ h01) ?_)
  rw [bo]
  refine wpAny_pure (spliced_nil ?_)
  repeat (first | (with_reducible first | refine wpAny_pure ?_ | refine wpAny_bind ?_ | refine wpAny_holding ?_) | ((fail_if_success ((with_reducible first | show wpAny _ _ (nsGet _ _) _ _ _ | show wpAny _ _ (buildClass _ _ _ _ _ _ _ _ _ _ _) _ _ _ | show wpAny _ _ (evalArgs _ _ _ _) _ _ _ | show wpAny _ _ (storeName _ _ _) _ _ _))); first | wp_delta | wp_step))
  have hqn : qualnameIn env (Str.ofString "K") (Str.ofString "K") = Str.ofString "cmp_to_key.<locals>.K" := by rw [← henv]; rfl
  rw [hqn]
  have r' := (r.deeper env)
  refine build_class (mg := mg) (cm := L + 1) (c0 := 20) (P0 := 16) (ps0 := #[]) (Gd := mths w hh (L + 1)) ?hA ?hA2 ?hA3 rfl rfl (by rw [← henv]; rfl) (by rw [← henv]; rfl) (by rw [← henv]; rfl) hk0 ht0 rfl rfl rfl rfl rfl rfl rfl
    (fun h' k => K.base.g _ (inF h' k)) (by decide) (K.glob _ _ rfl) (fun h' k => K.base.lim _ (inF h' k)) (fun h' k => K.bmod (inF h' k) (.inl rfl)) (let ⟨o, e⟩ := hsm; ⟨o, h01.get e⟩) ?hrun (let ⟨o, e, e'⟩ := hcs; ⟨o, h01.get e, e'⟩) (by decide) ?hQ
  case hA => exact r'.le0 (by decide)
  case hA2 => exact (r'.in1.in1).le0 (by decide)
  case hA3 => exact (r'.in1.in1.in1).le0 (by decide)
  case hrun =>
    intro B N c' P' fr h' t' i0 i1 i2 k0 k1 k2 tq tl T0 hB hP
    have hL16 : 16 < L := hL ▸ Heap.lt_size ht
    generalize hF0 : Fz.add (fun b => if b = 16 then some (X.tableObj (#[] ++ #[_, _, Value.ref c'])) else hh.get? b) B _ = F0 at T0 ⊢
    have le0 : ∀ b y, b ≠ 16 → hh.get? b = some y → F0 b = some y := fun b y hb e => by
      rw [← hF0]
      refine Fz.le_add ?_ b y (by simp only [if_neg hb]; exact e)
      by_cases q : B = 16
      · subst q; rw [ht0.2] at hB; cases hB
      · simp only [if_neg q]; exact hB
    have up : ∀ F : Fz, LeZ F0 F → ∀ h' : Heap, (∀ b y, F b = some y → h'.get? b = some y) → InH Z0 h' := fun F le h' k => inF h' fun b y hb e => k b y (le b y (le0 b y hb e))
    have F016 : ∃ o, F0 16 = some o := by
      rw [← hF0]
      refine ⟨_, Fz.le_add ?_ 16 _ (if_pos rfl)⟩
      by_cases q : B = 16
      · subst q; rw [ht0.2] at hB; cases hB
      · simp only [if_neg q]; exact hB
    have frs : ∀ (F : Fz) (h : Heap), LeZ F0 F → (∀ b y, F b = some y → h.get? b = some y) → ∀ a, h.get? a = none → hh.get? a = none := fun F h le k a e => by
      cases q : hh.get? a with
      | none => rfl
      | some y =>
        by_cases h16 : a = 16
        · obtain ⟨o16, F016⟩ := F016; subst h16; rw [k _ _ (le _ _ F016)] at e; cases e
        · rw [k _ _ (le _ _ (le0 _ _ h16 q))] at e; cases e
    have hPg : mainGlobals ≠ P' := fun e => by rw [← e] at hP; obtain ⟨og, _, _, hog, _⟩ := K.base.g _ h01; rw [hog] at hP; cases hP
    refine codeAny_body rfl rfl ?_
    refine wpAny_execs_cons (wpAny_Assign_Name (wpAny_Constant_str ?_))
    refine cs_store (es' := fun i k => #[⟨i0, .str "__module__" k0, .str "cpy313.functools" t'⟩, ⟨i1, .str "__qualname__" k1, .str "cmp_to_key.<locals>.K" tq⟩, ⟨i2, .str "__firstlineno__" k2, .int 4 tl⟩]) (ep' := 3) (T0.conv (on' := ⟨.type "dict", none, .dict #[⟨i0, .str "__module__" k0, _⟩, ⟨i1, .str "__qualname__" k1, .str "cmp_to_key.<locals>.K" tq⟩, ⟨i2, .str "__firstlineno__" k2, .int 4 tl⟩] 3, #[]⟩) rfl) rfl rfl (.inl rfl) (by kernel_rfl!) (fun i k => by kernel_rfl!) (fun h1 _ _ t1 T1 => ?_)
    generalize t' = tm at T1 ⊢
    refine wpAny_execs_cons (wpAny_Assign_Name (wpAny_List (wpAny_items_cons (wpAny_Constant_str (wpAny_items_nil ⟨by rw [sizeLine_eq]; simp, ?_⟩)) rfl)))
    have T2 := T1.push { cls := .type "list", data := .seq #[.str "obj" t1] } rfl
    have le2 : LeZ F0 (Fz.add F0 h1.objs.size { cls := .type "list", data := .seq #[.str "obj" t1] }) := Fz.le_add (T1.off (get?_size _))
    refine cs_store (es' := fun i k => #[⟨i0, .str "__module__" k0, .str "cpy313.functools" tm⟩, ⟨i1, .str "__qualname__" k1, .str "cmp_to_key.<locals>.K" tq⟩, ⟨i2, .str "__firstlineno__" k2, .int 4 tl⟩, ⟨i, .str "__slots__" k, .ref h1.objs.size⟩]) (ep' := 4) T2 rfl rfl (.inl rfl) (by kernel_rfl!) (fun i k => by kernel_rfl!) (fun h3 i3 k3 t3 T3 => ?_)
    generalize h1.objs.size = SL at T3 le2
    have hSLF : Fz.add F0 SL { cls := .type "list", data := .seq #[.str "obj" t1] } SL = some _ := Fz.add_self ..
    generalize hF2 : Fz.add F0 SL { cls := .type "list", data := .seq #[.str "obj" t1] } = F2 at T3 le2 hSLF
    refine wpAny_execs_cons (cs_def0 (mg := mg) T3 rfl rfl rfl rfl rfl (fun h' k => K.base.g _ (up _ le2 h' k)) hPg (fun h' k => K.bmodN h01 (up _ le2 h' k) hP) rfl (by kernel_rfl!) (fun i k u => putName_ok _ _ _ _) (by kernel_rfl!) rfl rfl rfl rfl rfl rfl rfl (fun h4 i4 k4 t4 f0 c4 F4 le4 fr4 T4 nf4 nc4 clo4 => ?_))
    replace T4 := T4.conv (on' := ⟨.type "dict", none, .dict #[⟨i0, .str "__module__" k0, .str "cpy313.functools" tm⟩, ⟨i1, .str "__qualname__" k1, .str "cmp_to_key.<locals>.K" tq⟩, ⟨i2, .str "__firstlineno__" k2, .int 4 tl⟩, ⟨i3, .str "__slots__" k3, .ref SL⟩, ⟨i4, .str "__init__" k4, .ref f0⟩] 5, #[]⟩) (by kernel_rfl!)
    have sl4 := le4
    replace le4 := le2.trans le4
    refine wpAny_execs_cons (cs_def (mg := mg) T4 rfl rfl rfl rfl rfl (fun h' k => K.base.g _ (up _ le4 h' k)) hPg (fun h' k => K.bmodN h01 (up _ le4 h' k) hP) rfl (by kernel_rfl!) (fun i k u => putName_ok _ _ _ _) (by kernel_rfl!) rfl rfl rfl rfl rfl rfl rfl (fun h5 i5 k5 t5 f1 c5 F5 le5 fr5 T5 nf5 nc5 clo5 => ?_))
    replace T5 := T5.conv (on' := ⟨.type "dict", none, .dict #[⟨i0, .str "__module__" k0, .str "cpy313.functools" tm⟩, ⟨i1, .str "__qualname__" k1, .str "cmp_to_key.<locals>.K" tq⟩, ⟨i2, .str "__firstlineno__" k2, .int 4 tl⟩, ⟨i3, .str "__slots__" k3, .ref SL⟩, ⟨i4, .str "__init__" k4, .ref f0⟩, ⟨i5, .str "__lt__" k5, .ref f1⟩] 6, #[]⟩) (by kernel_rfl!)
    have sl5 := le5
    replace le5 := le4.trans le5
    refine wpAny_execs_cons (cs_def (mg := mg) T5 rfl rfl rfl rfl rfl (fun h' k => K.base.g _ (up _ le5 h' k)) hPg (fun h' k => K.bmodN h01 (up _ le5 h' k) hP) rfl (by kernel_rfl!) (fun i k u => putName_ok _ _ _ _) (by kernel_rfl!) rfl rfl rfl rfl rfl rfl rfl (fun h6 i6 k6 t6 f2 c6 F6 le6 fr6 T6 nf6 nc6 clo6 => ?_))
    replace T6 := T6.conv (on' := ⟨.type "dict", none, .dict #[⟨i0, .str "__module__" k0, .str "cpy313.functools" tm⟩, ⟨i1, .str "__qualname__" k1, .str "cmp_to_key.<locals>.K" tq⟩, ⟨i2, .str "__firstlineno__" k2, .int 4 tl⟩, ⟨i3, .str "__slots__" k3, .ref SL⟩, ⟨i4, .str "__init__" k4, .ref f0⟩, ⟨i5, .str "__lt__" k5, .ref f1⟩, ⟨i6, .str "__gt__" k6, .ref f2⟩] 7, #[]⟩) (by kernel_rfl!)
    have sl6 := le6
    replace le6 := le5.trans le6
    refine wpAny_execs_cons (cs_def (mg := mg) T6 rfl rfl rfl rfl rfl (fun h' k => K.base.g _ (up _ le6 h' k)) hPg (fun h' k => K.bmodN h01 (up _ le6 h' k) hP) rfl (by kernel_rfl!) (fun i k u => putName_ok _ _ _ _) (by kernel_rfl!) rfl rfl rfl rfl rfl rfl rfl (fun h7 i7 k7 t7 f3 c7 F7 le7 fr7 T7 nf7 nc7 clo7 => ?_))
    replace T7 := T7.conv (on' := ⟨.type "dict", none, .dict #[⟨i0, .str "__module__" k0, .str "cpy313.functools" tm⟩, ⟨i1, .str "__qualname__" k1, .str "cmp_to_key.<locals>.K" tq⟩, ⟨i2, .str "__firstlineno__" k2, .int 4 tl⟩, ⟨i3, .str "__slots__" k3, .ref SL⟩, ⟨i4, .str "__init__" k4, .ref f0⟩, ⟨i5, .str "__lt__" k5, .ref f1⟩, ⟨i6, .str "__gt__" k6, .ref f2⟩, ⟨i7, .str "__eq__" k7, .ref f3⟩] 8, #[]⟩) (by kernel_rfl!)
    have sl7 := le7
    replace le7 := le6.trans le7
    refine wpAny_execs_cons (cs_def (mg := mg) T7 rfl rfl rfl rfl rfl (fun h' k => K.base.g _ (up _ le7 h' k)) hPg (fun h' k => K.bmodN h01 (up _ le7 h' k) hP) rfl (by kernel_rfl!) (fun i k u => putName_ok _ _ _ _) (by kernel_rfl!) rfl rfl rfl rfl rfl rfl rfl (fun h8 i8 k8 t8 f4 c8 F8 le8 fr8 T8 nf8 nc8 clo8 => ?_))
    replace T8 := T8.conv (on' := ⟨.type "dict", none, .dict #[⟨i0, .str "__module__" k0, .str "cpy313.functools" tm⟩, ⟨i1, .str "__qualname__" k1, .str "cmp_to_key.<locals>.K" tq⟩, ⟨i2, .str "__firstlineno__" k2, .int 4 tl⟩, ⟨i3, .str "__slots__" k3, .ref SL⟩, ⟨i4, .str "__init__" k4, .ref f0⟩, ⟨i5, .str "__lt__" k5, .ref f1⟩, ⟨i6, .str "__gt__" k6, .ref f2⟩, ⟨i7, .str "__eq__" k7, .ref f3⟩, ⟨i8, .str "__le__" k8, .ref f4⟩] 9, #[]⟩) (by kernel_rfl!)
    have sl8 := le8
    replace le8 := le7.trans le8
    refine wpAny_execs_cons (cs_def (mg := mg) T8 rfl rfl rfl rfl rfl (fun h' k => K.base.g _ (up _ le8 h' k)) hPg (fun h' k => K.bmodN h01 (up _ le8 h' k) hP) rfl (by kernel_rfl!) (fun i k u => putName_ok _ _ _ _) (by kernel_rfl!) rfl rfl rfl rfl rfl rfl rfl (fun h9 i9 k9 t9 f5 c9 F9 le9 fr9 T9 nf9 nc9 clo9 => ?_))
    replace T9 := T9.conv (on' := ⟨.type "dict", none, .dict #[⟨i0, .str "__module__" k0, .str "cpy313.functools" tm⟩, ⟨i1, .str "__qualname__" k1, .str "cmp_to_key.<locals>.K" tq⟩, ⟨i2, .str "__firstlineno__" k2, .int 4 tl⟩, ⟨i3, .str "__slots__" k3, .ref SL⟩, ⟨i4, .str "__init__" k4, .ref f0⟩, ⟨i5, .str "__lt__" k5, .ref f1⟩, ⟨i6, .str "__gt__" k6, .ref f2⟩, ⟨i7, .str "__eq__" k7, .ref f3⟩, ⟨i8, .str "__le__" k8, .ref f4⟩, ⟨i9, .str "__ge__" k9, .ref f5⟩] 10, #[]⟩) (by kernel_rfl!)
    have sl9 := le9
    replace le9 := le8.trans le9
    refine wpAny_execs_cons (wpAny_Assign_Name (wpAny_Constant_none ?_))
    refine cs_store (es' := fun i k => #[⟨i0, .str "__module__" k0, .str "cpy313.functools" tm⟩, ⟨i1, .str "__qualname__" k1, .str "cmp_to_key.<locals>.K" tq⟩, ⟨i2, .str "__firstlineno__" k2, .int 4 tl⟩, ⟨i3, .str "__slots__" k3, .ref SL⟩, ⟨i4, .str "__init__" k4, .ref f0⟩, ⟨i5, .str "__lt__" k5, .ref f1⟩, ⟨i6, .str "__gt__" k6, .ref f2⟩, ⟨i7, .str "__eq__" k7, .ref f3⟩, ⟨i8, .str "__le__" k8, .ref f4⟩, ⟨i9, .str "__ge__" k9, .ref f5⟩, ⟨i, .str "__hash__" k, .none⟩]) (ep' := 11) T9 rfl rfl (.inl rfl) (by kernel_rfl!) (fun i k => by kernel_rfl!) (fun h10 i10 k10 t10 T10 => ?_)
    have st8 := sl9
    have st7 := sl8.trans st8
    have st6 := sl7.trans st7
    have st5 := sl6.trans st6
    have st4 := sl5.trans st5
    have st3 := sl4.trans st4
    have up9 : ∀ {F : Fz}, LeZ F F9 → ∀ {g : Addr} (o : Obj), F g = some o → ¬ Tb o → F9 g = some o := fun le _ o e _ => le _ _ e
    have g0 := clo4.up (up9 st4) (up9 st4)
    have g1 := clo5.up (up9 st5) (up9 st5)
    have g2 := clo6.up (up9 st6) (up9 st6)
    have g3 := clo7.up (up9 st7) (up9 st7)
    have g4 := clo8.up (up9 st8) (up9 st8)
    have g5 := clo9
    refine wpAny_execs_nil ⟨F9, h10, t10, _, SL, f0, f1, f2, f3, f4, f5, i3, i4, i5, i6, i7, i8, i9, i10, k3, k4, k5, k6, k7, k8, k9, k10, tm, rfl, rfl, T10, ⟨le9, (allC g0.fnc (allC g1.fnc (allC g2.fnc (allC g3.fnc (allC g4.fnc (allC g5.fnc (fun _ h => nomatch h))))))), ⟨c4, c5, c6, c7, c8, c9, (allC (frs _ _ le2 T3.keep _ nf4) (allC (frs _ _ le4 T4.keep _ nf5) (allC (frs _ _ le5 T5.keep _ nf6) (allC (frs _ _ le6 T6.keep _ nf7) (allC (frs _ _ le7 T7.keep _ nf8) (allC (frs _ _ le8 T8.keep _ nf9) (allC (frs _ _ le2 T3.keep _ nc4) (allC (frs _ _ le4 T4.keep _ nc5) (allC (frs _ _ le5 T5.keep _ nc6) (allC (frs _ _ le6 T6.keep _ nc7) (allC (frs _ _ le7 T7.keep _ nc8) (allC (frs _ _ le8 T8.keep _ nc9) (fun _ h => nomatch h))))))))))))), g0, g1, g2, g3, g4, g5⟩, ⟨_, _, st3 _ _ hSLF⟩⟩⟩
  intro h' t' F' C ns md B SL ST f0 f1 f2 f3 f4 f5 t3 tq tm tl i0 i2 i3 i4 i5 i6 i7 i8 i9 i10 i11 i12 i13 k0 k2 k3 k4 k5 k6 k7 k8 k9 k10 k11 k12 k13 k16 hP16 hF' good fC fns fmd n1 n2 n3 eC ens emd
  repeat (first | (with_reducible first | refine wpAny_pure ?_ | refine wpAny_bind ?_ | refine wpAny_holding ?_) | ((fail_if_success ((with_reducible first | show wpAny _ _ (nsGet _ _) _ _ _ | show wpAny _ _ (buildClass _ _ _ _ _ _ _ _ _ _ _) _ _ _ | show wpAny _ _ (evalArgs _ _ _ _) _ _ _ | show wpAny _ _ (storeName _ _ _) _ _ _))); first | wp_delta | wp_step))
  obtain ⟨oL, es, ep, hoL, rL⟩ := ic.toInCall.ns
  replace hoL : hh.get? L = some oL := hoL
  have hL16 : L ≠ 16 := fun e => by rw [e, ht] at hLn; cases hLn
  have hns : h'.Ns L _ := ⟨oL, es, ep, k16 _ _ hL16 hoL, rL⟩
  subst henv
  refine wpAny_storeName_local rfl hns (fun h₃ hns₃ hs₃ => ?_) rfl
  repeat (first | (with_reducible first | refine wpAny_pure ?_ | refine wpAny_bind ?_ | refine wpAny_holding ?_) | ((fail_if_success ((with_reducible first | show wpAny _ _ (nsGet _ _) _ _ _ | show wpAny _ _ (buildClass _ _ _ _ _ _ _ _ _ _ _) _ _ _ | show wpAny _ _ (evalArgs _ _ _ _) _ _ _ | show wpAny _ _ (storeName _ _ _) _ _ _))); first | wp_delta | wp_step))
  refine wpAny_nsGet hns₃ ?_
  simp only [if_true]
  repeat (first | (with_reducible first | refine wpAny_pure ?_ | refine wpAny_bind ?_ | refine wpAny_holding ?_) | ((fail_if_success ((with_reducible first | show wpAny _ _ (nsGet _ _) _ _ _ | show wpAny _ _ (buildClass _ _ _ _ _ _ _ _ _ _ _) _ _ _ | show wpAny _ _ (evalArgs _ _ _ _) _ _ _ | show wpAny _ _ (storeName _ _ _) _ _ _))); first | wp_delta | wp_step))
  have kL : ∀ b y, b ≠ L → h'.get? b = some y → h₃.get? b = some y := fun b y hb e => (hs₃.2 b hb).trans e
  have keep : ∀ b y, b ≠ 16 → s.heap.get? b = some y → h₃.get? b = some y := fun b y hb e => kL b y (by rintro rfl; rw [hLn] at e; cases e) (k16 b y hb (keep₁ b y e))
  have z16' : Z 16 = none := by
    cases q : Z 16 with
    | none => rfl
    | some o => have := hi.get q; rw [ht] at this; cases this; exact absurd (Tb.table _) (hi.nt q)
  have frh : ∀ {a}, hh.get? a = none → s.heap.get? a = none := fun {a} e => by
    cases q : s.heap.get? a with
    | none => rfl
    | some y => rw [keep₁ _ _ q] at e; cases e
  have neL : ∀ {a}, hh.get? a = none → a ≠ L := fun {a} e q => by rw [q, hoL] at e; cases e
  obtain ⟨oc, hoc, hdc⟩ := hcell
  have fcm : s.heap.get? (L + 1) = none := by
    cases q : s.heap.get? (L + 1) with
    | none => rfl
    | some y => have q' := Heap.lt_size q; rw [hL] at q'; exact absurd q' (Nat.not_lt.mpr (Nat.le_succ L))
  have ncm : L + 1 ≠ 16 := fun e => by rw [e, ht] at fcm; cases fcm
  have ecm : h₃.get? (L + 1) = some oc := kL _ _ (Nat.succ_ne_self L) (k16 _ _ ncm hoc)
  replace good : mthsD w hh (L + 1) F' f0 f1 f2 f3 f4 f5 := good
  obtain ⟨c0, c1, c2, c3, c4, c5, fr, q0, q1, q2, q3, q4, q5⟩ := good
  have upZ : ∀ a ∈ [f0, f1, f2, f3, f4, f5, c0, c1, c2, c3, c4, c5], ∀ o, F' a = some o → ¬ Tb o → newZ s.heap h₃ Z a = some o := fun a ha o e n => newZ_new (frh (fr a ha)) (kL _ _ (neL (fr a ha)) (hF' a o e)) n
  have nz : ∀ {a o}, hh.get? a = none → h'.get? a = some o → ¬ Tb o → newZ s.heap h₃ Z a = some o := fun {a o} e e' n => newZ_new (frh e) (kL _ _ (neL e) e') n
  obtain ⟨ps, hps⟩ := hP16
  obtain ⟨tb, emd⟩ := emd
  refine ⟨C, newZ s.heap h₃ Z, ps, rfl, ⟨⟨_, _, rfl⟩, fun b y hb e => .inl (keep b y (by simpa using hb) e), fun b y e => ?_, newZ_le hi, newZ_in hi fun b y e => keep b y (by rintro rfl; rw [z16'] at e; cases e) (hi.get e), fun a y e e' => ?_⟩, kL _ _ (Ne.symm hL16) hps,
    ⟨ns, md, B, SL, ST, f0, f1, f2, f3, f4, f5, c0, c1, c2, c3, c4, c5, L + 1, oc, t3, tq, tm, tl, tb, i0, i2, i3, i4, i5, i6, i7, i8, i9, i10, i11, i12, i13, k0, k2, k3, k4, k5, k6, k7, k8, k9, k10, k11, k12, k13, nz fC eC (Tb.ty rfl), nz fns ens (Tb.ty rfl), nz fmd emd (Tb.ty rfl),
      q0.up (upZ _ (.head _)) (upZ _ (.tail _ (.tail _ (.tail _ (.tail _ (.tail _ (.tail _ (.head _)))))))), q1.up (upZ _ (.tail _ (.head _))) (upZ _ (.tail _ (.tail _ (.tail _ (.tail _ (.tail _ (.tail _ (.tail _ (.head _))))))))), q2.up (upZ _ (.tail _ (.tail _ (.head _)))) (upZ _ (.tail _ (.tail _ (.tail _ (.tail _ (.tail _ (.tail _ (.tail _ (.tail _ (.head _)))))))))), q3.up (upZ _ (.tail _ (.tail _ (.tail _ (.head _))))) (upZ _ (.tail _ (.tail _ (.tail _ (.tail _ (.tail _ (.tail _ (.tail _ (.tail _ (.tail _ (.head _))))))))))), q4.up (upZ _ (.tail _ (.tail _ (.tail _ (.tail _ (.head _)))))) (upZ _ (.tail _ (.tail _ (.tail _ (.tail _ (.tail _ (.tail _ (.tail _ (.tail _ (.tail _ (.tail _ (.head _)))))))))))), q5.up (upZ _ (.tail _ (.tail _ (.tail _ (.tail _ (.tail _ (.head _))))))) (upZ _ (.tail _ (.tail _ (.tail _ (.tail _ (.tail _ (.tail _ (.tail _ (.tail _ (.tail _ (.tail _ (.tail _ (.head _))))))))))))), newZ_new fcm ecm (Tb.cell hdc), hdc⟩⟩
  · by_cases hb : b = 16
    · subst hb; exact ⟨_, kL _ _ (Ne.symm hL16) hps⟩
    · exact ⟨y, keep b y hb e⟩
  · cases q : s.heap.get? a with
    | none => rfl
    | some y' => simp only [newZ, q] at e; rw [e'] at e; cases e
end Mq
set_option tactic.hygienic false
namespace Mq
open PySem PySem.Spec PySem.Calls PyProof.Rows PySem.W
theorem F_type_call_lookup : typeLookup (.type "type") "__call__" = pure (some (.builtin "type.__call__")) := by rw [typeLookup_type, builtinLookup_eq_fast]; kernel_rfl
theorem F_sub_type_type : isSubtype (.type "type") (.type "type") = pure true := by rw [isSubtype_type]; kernel_rfl
theorem makes_cls {M : Model} {h : Heap} {C : Addr} {od : Option Addr} {cd : ClassData} {sl : Array (Option Value)} (hC : h.get? C = some ⟨.type "type", od, .cls cd, sl⟩) (e1 : cd.abstract = false) (e2 : cd.hasDel = false) (e3 : (sl.toList[4]?).join = some (.builtin "object.__new__")) (e4 : cd.mro = [.ref C, .type "object"]) :
    Makes M h C := by
  have hm : Looks M h (mroOf (.ref C)) [.ref C, .type "object"] := by
    rw [← e4]; exact ((Looks.ld (part := none) hC).andThen .now).andThen .now
  have made : Looks M h (Bind.madeBy (.ref C)) (some "object.__new__") := by
    intro A Q E s k q
    unfold Bind.madeBy
    refine wpAny_bind (hm A _ E s k ?_)
    rw [List.forIn_cons]
    refine wpAny_bind (wpAny_bind (wpAny_bind (wpAny_bind (wpAny_loadPart (k _ _ hC) (wpAny_pure ?_)))))
    dsimp only
    rw [← Array.getElem?_toList, e3]
    exact wpAny_pure (wpAny_pure (wpAny_pure q))
  have t1 : Looks M h (typeOf (.ref C)) (.type "type") := (Looks.ld hC).andThen .now
  refine ⟨⟨_, _, _, _, hC, e1, e2, by rw [e4]; rfl⟩, made, ?_, ?_, ?_, ?_, ?_⟩
  · intro A Q E s k q
    unfold Bind.staticBase
    refine wpAny_bind (hm A _ E s k ?_)
    rw [List.forIn_cons]
    exact wpAny_bind (wpAny_bind (wpAny_bind (made A _ E s k (wpAny_pure (wpAny_pure (wpAny_pure q))))))
  · intro A Q E s k q
    unfold isSubtype
    refine wpAny_bind (hm A _ E s k ?_)
    refine wpAny_pure ?_
    simpa using q
  · intro A Q E s k q
    unfold isSubtype
    refine wpAny_bind (hm A _ E s k ?_)
    refine wpAny_pure ?_
    simpa using q
  · intro A Q E s k q
    unfold specialOf
    refine wpAny_bind (t1 A _ E s k ?_)
    exact wpAny_of_eq F_type_call_lookup q
  · intro A Q E s k q
    unfold isInstance
    refine wpAny_bind (t1 A _ E s k ?_)
    exact wpAny_of_eq F_sub_type_type q
/-- a name that the class's own dict holds -/
theorem look_own {M : Model} {h : Heap} {C : Addr} {od : Option Addr} {cd : ClassData} {sl : Array (Option Value)} {on : Obj} {name : Str} {v : Value} (hC : h.get? C = some ⟨.type "type", od, .cls cd, sl⟩) (e4 : cd.mro = [.ref C, .type "object"]) (hns : h.get? cd.ns = some on) (hv : nsLook name on = pure (some v)) :
    Looks M h (typeLookup (.ref C) name) (some v) := by
  intro A Q E s k q
  rw [typeLookup_eq]
  refine wpAny_bind (wpAny_bind (wpAny_bind (wpAny_load (k _ _ hC) (wpAny_pure (wpAny_pure ?_)))))
  rw [e4, lookupAlong_cons]
  refine wpAny_bind (wpAny_bind (wpAny_bind (wpAny_load (k _ _ hC) (wpAny_pure ?_))))
  refine wpAny_bind (wpAny_loadPart (k _ _ hns) ?_)
  rw [hv]
  exact wpAny_pure (wpAny_pure q)
/-- a name that neither the class nor object holds is object's answer -/
theorem look_past {M : Model} {h : Heap} {C : Addr} {od : Option Addr} {cd : ClassData} {sl : Array (Option Value)} {on : Obj} {name : Str} {r : Option Value} (hC : h.get? C = some ⟨.type "type", od, .cls cd, sl⟩) (e4 : cd.mro = [.ref C, .type "object"]) (hns : h.get? cd.ns = some on) (hv : nsLook name on = pure none) (ho : fastBuiltinOwn "object" name = r) :
    Looks M h (typeLookup (.ref C) name) r := by
  intro A Q E s k q
  rw [typeLookup_eq]
  refine wpAny_bind (wpAny_bind (wpAny_bind (wpAny_load (k _ _ hC) (wpAny_pure (wpAny_pure ?_)))))
  rw [e4, lookupAlong_cons]
  refine wpAny_bind (wpAny_bind (wpAny_bind (wpAny_load (k _ _ hC) (wpAny_pure ?_))))
  refine wpAny_bind (wpAny_loadPart (k _ _ hns) ?_)
  rw [hv]
  refine wpAny_pure ?_
  rw [lookupAlong_cons]
  show wpAny _ _ (pure (builtinOwn "object" name) >>= _) _ _ _
  rw [builtinOwn_eq_fast, ho]
  refine wpAny_bind (wpAny_pure ?_)
  cases r with
  | some u => exact wpAny_pure q
  | none => exact wpAny_pure q
theorem look_bind {M : Model} {h : Heap} {f : Addr} {of : Obj} (hf : h.get? f = some of) (hc : of.cls = .type "function") (self : Value) : Looks M h (bindSpecial (.ref f) self) (.ref f, [self]) := fun A Q E s k q =>
  wpAny_bindSpecial_def (k _ _ hf) hc q
/-- a call of a class whose own __init__ is a function, up to the call of __init__ -/
theorem call_cls {prog : Program} {w : World} {A : Around} {R : Result → Shared → Prop} {s : Shared} {C f : Addr} {od : Option Addr} {cd : ClassData} {sl : Array (Option Value)} {on of : Obj} {rest : List Value} (hC : s.heap.get? C = some ⟨.type "type", od, .cls cd, sl⟩) (e1 : cd.abstract = false) (e2 : cd.hasDel = false)
    (e3 : (sl.toList[4]?).join = some (.builtin "object.__new__")) (e4 : cd.mro = [.ref C, .type "object"]) (hns : s.heap.get? cd.ns = some on) (hv : nsLook "__init__" on = pure (some (.ref f))) (hf : s.heap.get? f = some of) (hc : of.cls = .type "function")
    (hq : codeAny (model prog w) (A.under (.builtin "type.__call__" ⟨.ref C :: rest, []⟩)) (.call (.ref f) ⟨.ref (s.heap.objs.size + 1) :: rest, []⟩) (InitBack (s.heap.objs.size + 1) R) { s with heap := (s.heap.push emptyDict).push (instObj C s.heap.objs.size) }) :
    codeAny (model prog w) A (.call (.ref C) ⟨rest, []⟩) R s := by
  obtain ⟨hh, g, d, t, os⟩ := s
  exact make_core (makes_cls hC e1 e2 e3 e4) (look_own hC e4 hns hv) (look_bind hf hc) (.inl rfl) hq
end Mq
set_option tactic.hygienic false
namespace Mq
open PySem PySem.Spec PySem.Calls PyProof.Rows PySem.W PySem.Builtin PySem.Builtin.ObjectAttr PySem.Builtin.Getset_descriptor
theorem makes_cls_self {M : Model} {h : Heap} {C : Addr} {od : Option Addr} {cd : ClassData} {sl : Array (Option Value)} (hC : h.get? C = some ⟨.type "type", od, .cls cd, sl⟩) (e4 : cd.mro = [.ref C, .type "object"]) : Looks M h (isSubtype (.ref C) (.ref C)) true := by
  have hm : Looks M h (mroOf (.ref C)) [.ref C, .type "object"] := by
    rw [← e4]; exact ((Looks.ld (part := none) hC).andThen .now).andThen .now
  intro A Q E s k q
  unfold isSubtype
  refine wpAny_bind (hm A _ E s k ?_)
  refine wpAny_pure ?_
  simpa using q
/-- the slot obj of an object is set -/
theorem slot_obj {prog : Program} {w : World} {A : Around} {R : Result → Shared → Prop} {s : Shared} {C md x dx : Addr} {cd : ClassData} {od : Option Addr} {sl : Array (Option Value)} {tb : Tok} {v : Value}
    (hC : s.heap.get? C = some ⟨.type "type", od, .cls cd, sl⟩) (e4 : cd.mro = [.ref C, .type "object"]) (e5 : cd.slotNames = [Str.ofString "obj"])
    (ho : s.heap.get? md = some { cls := .type "member_descriptor", data := .fields #[.str (Str.ofString "obj") tb, .ref C, .builtin "proto.slot", .builtin "proto.slot#set", .int 0 0] })
    (hx : s.heap.get? x = some (instObj C dx)) (h : R (.ok (.ret .none)) { s with heap := s.heap.update x fun o => { o with slots := (o.slots ++ Array.replicate (0 + 1 - o.slots.size) none).setIfInBounds 0 (some v) } }) :
    codeAny (model prog w) A (.call (.builtin "member_descriptor.__set__") ⟨[.ref md, .ref x, v], []⟩) R s := by
  obtain ⟨hh, g, dr, t, os⟩ := s
  dsimp only at ho hx hC
  have hm : Looks (model prog w) hh (mroOf (.ref C)) [.ref C, .type "object"] := by
    rw [← e4]; exact ((Looks.ld (part := none) hC).andThen .now).andThen .now
  have L0 : Looks (model prog w) hh (typeOf (.ref x)) (.ref C) := (Looks.ld hx).andThen .now
  have L1 : Looks (model prog w) hh (isSubtype (.ref C) (.ref C)) true := (makes_cls_self hC e4)
  have L2 : Looks (model prog w) hh (Slots.slotNamesOf (.ref C)) [Str.ofString "obj"] := by
    rw [← e5]; exact ((Looks.ld (part := none) hC).andThen .now).andThen .now
  have f0 := looks_field (M := model prog w) ho 0 (v := .str (Str.ofString "obj") tb) rfl
  have f1 := looks_field (M := model prog w) ho 1 (v := .ref C) rfl
  have f3 := looks_field (M := model prog w) ho 3 (v := .builtin "proto.slot#set") rfl
  have f4 := looks_field (M := model prog w) ho 4 (v := .int 0 0) rfl
  refine codeAny_call_builtin KF.slot_mset.plain KF.entry_mset (KF.slot_mset.check _ _ _ _ _ _ _ _ ⟨_, ho, rfl⟩ (KF.args_mset _ _ _) ?_)
  unfold Builtin.«member_descriptor.__set__» descrSet descrStoreThrough descrCheckInstance descrNameAndClass isInstance
  have f5 : Looks (model prog w) hh (descrItself (.ref md)) [.ref md] := ((Looks.ld (part := none) ho).andThen .now).andThen (Looks.of_pure (by kernel_rfl))
  repeat lk
  refine ⟨Code.quiet_builtin _ (by decide +kernel), codeAny_builtin KF.entry_slotset ?_⟩
  unfold Builtin.«proto.slot#set» Slots.target
  repeat lk
  refine wpAny_updatePart hx ?_
  exact wpAny_pure h
end Mq
set_option tactic.hygienic false
namespace Mq
open PySem PySem.Spec PySem.Calls PyProof.Rows PySem.W PySem.Builtin PySem.Builtin.ObjectAttr PySem.Builtin.Getset_descriptor
theorem osa_obj {prog : Program} {w : World} {A : Around} {R : Result → Shared → Prop} {s : Shared} {C md x dx : Addr} {cd : ClassData} {od : Option Addr} {sl : Array (Option Value)} {on : Obj} {tb tk : Tok} {v : Value}
    (hC : s.heap.get? C = some ⟨.type "type", od, .cls cd, sl⟩) (e4 : cd.mro = [.ref C, .type "object"]) (hns : s.heap.get? cd.ns = some on) (hv : nsLook "obj" on = pure (some (.ref md)))
    (ho : s.heap.get? md = some { cls := .type "member_descriptor", data := .fields #[.str (Str.ofString "obj") tb, .ref C, .builtin "proto.slot", .builtin "proto.slot#set", .int 0 0] })
    (hx : s.heap.get? x = some (instObj C dx))
    (h : codeAny (model prog w) A.in1 (.call (.builtin "member_descriptor.__set__") ⟨[.ref md, .ref x, v], []⟩) (fun r s' => match r with | .ok (.ret _) => R (.ok (.ret .none)) s' | .ok _ => False | .error e => R (.error e) s') s) :
    codeAny (model prog w) A (.call (.builtin "object.__setattr__") ⟨[.ref x, .str "obj" tk, v], []⟩) R s := by
  have SF := PySem.F.store_object
  have I : Looks (model prog w) s.heap (typeOf (.ref x)) (.ref C) := (Looks.ld hx).andThen .now
  have hm : Looks (model prog w) s.heap (mroOf (.ref C)) [.ref C, .type "object"] := by
    rw [← e4]; exact ((Looks.ld (part := none) hC).andThen .now).andThen .now
  have hsub : Looks (model prog w) s.heap (isSubtype (.ref C) (.type "object")) true := by
    intro A Q E s k q
    unfold isSubtype
    refine wpAny_bind (hm A _ E s k ?_)
    refine wpAny_pure ?_
    simpa using q
  have sub : Looks (model prog w) s.heap (isInstance (.ref x) (.type "object")) true := I.andThen hsub
  refine codeAny_call_builtin SF.slot.plain SF.entry (@check_slot (model prog w) _ _ s "object.__setattr__" "object" "__setattr__" (.ref x) [.str "obj" tk, v] [] _ SF.kind SF.split sub (SF.args (.ref x) (.str "obj" tk) v) ?_)
  have hT : Looks (model prog w) s.heap (typeOf (.ref md)) (.type "member_descriptor") := (Looks.ld ho).andThen .now
  have S := KF.slot_mset
  have L3 : Looks (model prog w) s.heap (storeTaker? (some (.ref md))) (some (.ref md)) := by
    have hs : Looks (model prog w) s.heap (specialOf (.ref md) "__set__") (some (.builtin "member_descriptor.__set__")) := hT.andThen (Looks.of_pure S.lookup)
    have ht : Looks (model prog w) s.heap (takesStores (.ref md)) true := hs.andThen .now
    exact ht.andThen .now
  rw [osa_eq, refuse_eq]
  refine wpAny_bind (wpAny_bind (I.here (wpAny_bind (hm.here ?_))))
  rw [refuse_only _ (l := [.ref C, .type "object"]) rfl]
  refine wpAny_pure (wpAny_bind (I.here (wpAny_bind ((look_own hC e4 hns hv).here (wpAny_bind (L3.here ?_))))))
  dsimp only
  refine wpAny_bind (wpAny_rule (wpAny_bind (wpAny_holding (wpAny_bind (wpAny_bind (hT.here ((Looks.of_pure S.lookup).here (wpAny_holding ?_))))))))
  rw [S.bind]
  refine wpAny_bind (wpAny_pure (wpAny_bind (wpAny_call (codeAny_mono h fun r s' z => ?_))))
  rcases r with e | (v | _ | _ | _) <;> first | exact z | exact wpAny_pure (wpAny_pure z)
end Mq
set_option tactic.hygienic false
namespace Mq
open PySem PySem.Spec PySem.Calls PyProof.Rows PySem.W PySem.Builtin PySem.Builtin.ObjectAttr PySem.Builtin.Getset_descriptor
/-- `x.obj = v` on a fresh object -/
theorem set_obj {prog : Program} {w : World} {A : Around} {E : Value → Shared → Prop} {Q : Unit → Shared → Prop} {s : Shared} {C md x dx : Addr} {cd : ClassData} {od : Option Addr} {sl : Array (Option Value)} {on : Obj} {tb : Tok} {v : Value}
    (hC : s.heap.get? C = some ⟨.type "type", od, .cls cd, sl⟩) (e4 : cd.mro = [.ref C, .type "object"]) (e5 : cd.slotNames = [Str.ofString "obj"]) (hns : s.heap.get? cd.ns = some on) (hv : nsLook "obj" on = pure (some (.ref md))) (hsa : nsLook "__setattr__" on = pure none)
    (ho : s.heap.get? md = some { cls := .type "member_descriptor", data := .fields #[.str (Str.ofString "obj") tb, .ref C, .builtin "proto.slot", .builtin "proto.slot#set", .int 0 0] })
    (hx : s.heap.get? x = some (instObj C dx)) (h : Q () { s with heap := s.heap.update x fun o => { o with slots := (o.slots ++ Array.replicate (0 + 1 - o.slots.size) none).setIfInBounds 0 (some v) }, toks := s.toks + 1 }) :
    wpAny (model prog w) A (setAttr (.ref x) "obj" v) Q E s := by
  have I : Looks (model prog w) s.heap (typeOf (.ref x)) (.ref C) := (Looks.ld hx).andThen .now
  have hl : Looks (model prog w) s.heap (typeLookup (.ref C) "__setattr__") (some (.builtin "object.__setattr__")) := look_past hC e4 hns hsa (by kernel_rfl)
  refine wpAny_bind (wpAny_mkText (wpAny_bind (wpAny_bind (wpAny_bind (I _ _ _ _ (fun _ _ e => e) (hl _ _ _ _ (fun _ _ e => e) (wpAny_holding ?_)))))))
  rw [PySem.F.store_object.slot.bind]
  refine wpAny_bind (wpAny_pure (wpAny_bind (wpAny_call (osa_obj (s := { s with toks := s.toks + 1 }) hC e4 hns hv ho hx (slot_obj hC e4 e5 ho hx ?_)))))
  exact wpAny_pure (wpAny_pure h)
end Mq
set_option tactic.hygienic false
namespace Mq
/-- packing, in plain -/
theorem packStep_zero (r : Rule) (hb : r.b ≠ 0) (acc : List Int) : packStep r acc 0 = acc ++ [0] := by
  unfold packStep
  rw [if_neg]
  rintro ⟨_, _, h⟩
  exact hb h.symm
theorem packStep_after (r : Rule) (ha : r.a ≠ 0) (p zs : List Int) (s : Int) : packStep r (p ++ 0 :: zs) s = p ++ 0 :: packStep r zs s := by
  unfold packStep
  cases zs with
  | nil =>
    rw [if_neg, if_neg]
    · simp
    · rintro ⟨h, _⟩; exact h rfl
    · rintro ⟨_, h, _⟩
      rw [List.getLast?_append] at h
      simp at h
      exact ha h.symm
  | cons z zs =>
    have h1 : (p ++ 0 :: z :: zs).getLast? = (z :: zs).getLast? := by rw [List.getLast?_append]; simp [List.getLast?_cons]
    have h2 : p ++ 0 :: z :: zs ≠ [] := by simp
    by_cases h : (z :: zs) ≠ [] ∧ (z :: zs).getLast? = some r.a ∧ s = r.b
    · rw [if_pos h, if_pos ⟨h2, by rw [h1]; exact h.2.1, h.2.2⟩]
      rw [List.dropLast_append_of_ne_nil (by simp)]
      simp
    · rw [if_neg h, if_neg (fun q => h ⟨by simp, by rw [← h1]; exact q.2.1, q.2.2⟩)]
      simp
theorem packFold_after (r : Rule) (ha : r.a ≠ 0) (p : List Int) : ∀ (ys zs : List Int), ys.foldl (packStep r) (p ++ 0 :: zs) = p ++ 0 :: ys.foldl (packStep r) zs
  | [], zs => rfl
  | y :: ys, zs => by rw [List.foldl_cons, packStep_after r ha, packFold_after r ha p ys, List.foldl_cons]
theorem packOf_split (r : Rule) (ha : r.a ≠ 0) (hb : r.b ≠ 0) (xs ys : List Int) : packOf r (xs ++ 0 :: ys) = packOf r xs ++ 0 :: packOf r ys := by
  unfold packOf
  rw [List.foldl_append, List.foldl_cons, packStep_zero r hb]
  exact packFold_after r ha _ ys []
noncomputable def V : Nat → List Int := fun k => [1, 2, 255] ++ (List.range k).map fun (i : Nat) => 256 + (i : Int)
noncomputable def S0 : List Int := [2, 1, 2, 255, 0, 255, 2, 255, 0]
noncomputable def hasPair : List Int → Bool
  | a :: b :: l => (a != 0 && b != 0) || hasPair (b :: l)
  | _ => false
noncomputable def chk1 (S : List Int) (k : Nat) (f : List Int → Bool) : Bool := hasPair S && (V k).all fun a => (V k).all fun b => f (packOf ⟨256 + (k : Int), a, b⟩ S)
theorem chk : chk1 S0 0 (fun S1 => chk1 S1 1 fun S2 => chk1 S2 2 fun S3 => hasPair S3) = true := by decide +kernel
theorem mem_packStep {r : Rule} {acc : List Int} {s x : Int} (h : x ∈ packStep r acc s) : x ∈ acc ∨ x = s ∨ x = r.new := by
  unfold packStep at h
  split at h
  · rcases List.mem_append.mp h with h | h
    · exact .inl ((List.dropLast_sublist acc).subset h)
    · exact .inr (.inr (by simpa using h))
  · rcases List.mem_append.mp h with h | h
    · exact .inl h
    · exact .inr (.inl (by simpa using h))
theorem mem_packFold {r : Rule} {x : Int} : ∀ {row acc : List Int}, x ∈ row.foldl (packStep r) acc → x ∈ acc ∨ x ∈ row ∨ x = r.new
  | [], acc, h => .inl h
  | s :: row, acc, h => by
    rcases mem_packFold (row := row) h with h | h | h
    · rcases mem_packStep h with h | h | h
      · exact .inl h
      · exact .inr (.inl (by simp [h]))
      · exact .inr (.inr h)
    · exact .inr (.inl (by simp [h]))
    · exact .inr (.inr h)
theorem mem_packOf {r : Rule} {row : List Int} {x : Int} (h : x ∈ packOf r row) : x ∈ row ∨ x = r.new := by
  rcases mem_packFold h with h | h | h
  · simp at h
  · exact .inl h
  · exact .inr h
theorem hasPair_places : ∀ (S pre : List Int), hasPair S = true → placesOf (pre ++ S) ≠ []
  | a :: b :: l, pre, h => by
    unfold hasPair at h
    rw [Bool.or_eq_true] at h
    rcases h with h | h
    · intro e
      have : pre.length ∈ placesOf (pre ++ a :: b :: l) := by
        unfold placesOf
        rw [List.mem_filter]
        refine ⟨List.mem_range.mpr (by simp), ?_⟩
        unfold placeOk
        have e1 : (pre ++ a :: b :: l).getD pre.length 0 = a := by simp [List.getD_eq_getElem?_getD]
        have e2 : (pre ++ a :: b :: l).getD (pre.length + 1) 0 = b := by simp [List.getD_eq_getElem?_getD, List.getElem?_append_right]
        rw [e1, e2]
        exact h
      rw [e] at this
      simp at this
    · have := hasPair_places (b :: l) (pre ++ [a]) h
      simpa using this
  | [], _, h => by simp [hasPair] at h
  | [_], _, h => by simp [hasPair] at h
noncomputable def chkK : Nat → List Int → Bool
  | 0, S => chk1 S 0 (fun S1 => chk1 S1 1 fun S2 => chk1 S2 2 fun S3 => hasPair S3)
  | 1, S => chk1 S 1 (fun S2 => chk1 S2 2 fun S3 => hasPair S3)
  | 2, S => chk1 S 2 (fun S3 => hasPair S3)
  | _, S => hasPair S
theorem chkK_pair {k : Nat} {S : List Int} (h : chkK k S = true) : hasPair S = true := by
  match k, h with
  | 0, h => unfold chkK chk1 at h; exact (Bool.and_eq_true _ _ ▸ h).1
  | 1, h => unfold chkK chk1 at h; exact (Bool.and_eq_true _ _ ▸ h).1
  | 2, h => unfold chkK chk1 at h; exact (Bool.and_eq_true _ _ ▸ h).1
  | k + 3, h => exact h
theorem chkK_step {k : Nat} (hk : k < 3) {S : List Int} {a b : Int} (h : chkK k S = true) (ha : a ∈ V k) (hb : b ∈ V k) : chkK (k + 1) (packOf ⟨256 + (k : Int), a, b⟩ S) = true := by
  match k, hk, h, ha, hb with
  | 0, _, h, ha, hb => unfold chkK chk1 at h; exact List.all_eq_true.mp (List.all_eq_true.mp (Bool.and_eq_true _ _ ▸ h).2 a ha) b hb
  | 1, _, h, ha, hb => unfold chkK chk1 at h; exact List.all_eq_true.mp (List.all_eq_true.mp (Bool.and_eq_true _ _ ▸ h).2 a ha) b hb
  | 2, _, h, ha, hb => unfold chkK chk1 at h; exact List.all_eq_true.mp (List.all_eq_true.mp (Bool.and_eq_true _ _ ▸ h).2 a ha) b hb
theorem V_mono {k : Nat} {x : Int} (h : x ∈ V k) : x ∈ V (k + 1) := by
  unfold V at *
  rw [List.range_succ, List.map_append]
  simp only [List.mem_append] at *
  rcases h with h | h
  · exact .inl h
  · exact .inr (.inl h)
theorem V_new (k : Nat) : 256 + (k : Int) ∈ V (k + 1) := by
  unfold V
  rw [List.range_succ, List.map_append]
  simp
theorem V_lt {k : Nat} {x : Int} (h : x ∈ V k) : 0 < x ∧ x < 256 + k := by
  unfold V at h
  rcases List.mem_append.mp h with h | h
  · simp at h; (first | exact ar69 h | (first | lia | omega))
  · obtain ⟨i, hi, rfl⟩ := List.mem_map.mp h
    have := List.mem_range.mp hi
    (first | exact ar70 this | (first | lia | omega))
/-- what holds after k rules -/
structure PInv (ns : List Int) (k : Nat) : Prop where
  tail : k ≤ 3 → ∃ pre S, (rulesAt ns (rowOf ns) k).2 = pre ++ 0 :: S ∧ chkK k S = true
  elems : ∀ x ∈ (rulesAt ns (rowOf ns) k).2, x = 0 ∨ x ∈ V k
theorem letter_vals (x : Int) : letter x = 0 ∨ letter x ∈ V 0 := by
  unfold letter
  have h0 : 0 ≤ x.fmod 8 := Int.fmod_nonneg_of_pos _ (by decide)
  have h8 : x.fmod 8 < 8 := Int.fmod_lt_of_pos _ (by decide)
  have h9 : (x.fmod 8).toNat < 8 := by (first | exact ar67 h8 | (first | lia | omega))
  generalize (x.fmod 8).toNat = m at h9
  revert m; decide
theorem rowOf_tail (ns : List Int) : rowOf ns = ((ns.map letter) ++ [1, 2, 1, 2, 255]) ++ 0 :: S0 := by
  unfold rowOf
  rw [List.map_append, show tailNs.map letter = [1, 2, 1, 2, 255, 0, 2, 1, 2, 255, 0, 255, 2, 255] by decide]
  simp [S0]
theorem pinv0 (ns : List Int) : PInv ns 0 := by
  refine ⟨fun _ => ⟨_, _, rowOf_tail ns, chk⟩, fun x hx => ?_⟩
  have hx : x ∈ rowOf ns := hx
  unfold rowOf at hx
  rcases List.mem_append.mp hx with h | h
  · obtain ⟨y, _, rfl⟩ := List.mem_map.mp h
    exact letter_vals y
  · left; simpa using h
theorem PInv.places {ns : List Int} {k : Nat} (h : PInv ns k) (hk : k ≤ 3) : placesOf (rulesAt ns (rowOf ns) k).2 ≠ [] := by
  obtain ⟨pre, S, e, c⟩ := h.tail hk
  rw [e, show pre ++ 0 :: S = (pre ++ [0]) ++ S by simp]
  exact hasPair_places _ _ (chkK_pair c)
theorem PInv.rule {ns : List Int} {k : Nat} (h : PInv ns k) (hk : k ≤ 3) : (nextRule ns k (rulesAt ns (rowOf ns) k).2).a ∈ V k ∧ (nextRule ns k (rulesAt ns (rowOf ns) k).2).b ∈ V k := by
  have hm := pickIdx_mem ns k _ (h.places hk)
  have he := h.elems
  generalize (rulesAt ns (rowOf ns) k).2 = p at *
  obtain ⟨hr, hok⟩ := List.mem_filter.mp hm
  have hr' := List.mem_range.mp hr
  unfold placeOk at hok
  rw [Bool.and_eq_true] at hok
  have at_ : ∀ i, i < p.length → (p.getD i 0 != 0) = true → p.getD i 0 ∈ V k := fun i hi hz => by
    have hmem : p.getD i 0 ∈ p := by rw [List.getD_eq_getElem?_getD, List.getElem?_eq_getElem hi]; exact List.getElem_mem hi
    rcases he _ hmem with h | h
    · rw [h] at hz; simp at hz
    · exact h
  exact ⟨at_ _ (by (first | exact ar71 hr' | (first | lia | omega))) hok.1, at_ _ (by (first | exact ar72 hr' | (first | lia | omega))) hok.2⟩
theorem PInv.next {ns : List Int} {k : Nat} (h : PInv ns k) (hk : k ≤ 3) : PInv ns (k + 1) := by
  obtain ⟨ha, hb⟩ := h.rule hk
  have ha0 := (V_lt ha).1
  have hb0 := (V_lt hb).1
  refine ⟨fun hk3 => ?_, fun x hx => ?_⟩
  · obtain ⟨pre, S, e, c⟩ := h.tail hk
    have e2 : (rulesAt ns (rowOf ns) (k + 1)).2 = packOf (nextRule ns k (rulesAt ns (rowOf ns) k).2) (rulesAt ns (rowOf ns) k).2 := rfl
    have cs := chkK_step (by (first | exact ar73 hk3 | (first | lia | omega))) c ha hb
    refine ⟨packOf (nextRule ns k (rulesAt ns (rowOf ns) k).2) pre, packOf (nextRule ns k (rulesAt ns (rowOf ns) k).2) S, ?_, cs⟩
    rw [e2]
    generalize nextRule ns k (rulesAt ns (rowOf ns) k).2 = r at ha0 hb0
    rw [e]
    exact packOf_split r (by (first | exact ar74 ha0 | (first | lia | omega))) (by (first | exact ar74 hb0 | (first | lia | omega))) _ _
  · rcases mem_packOf hx with h' | h'
    · rcases h.elems x h' with h' | h'
      · exact .inl h'
      · exact .inr (V_mono h')
    · right; rw [h']; exact V_new k
theorem pinv (ns : List Int) : ∀ k, k ≤ 4 → PInv ns k
  | 0, _ => pinv0 ns
  | k + 1, h => (pinv ns k (by (first | exact ar75 h | (first | lia | omega)))).next (by (first | exact ar76 h | (first | lia | omega)))
end Mq
set_option tactic.hygienic false
namespace Mq
theorem rulesAt_get (ns row : List Int) : ∀ (k i : Nat), i < k → (rulesAt ns row k).1[i]? = some (nextRule ns i (rulesAt ns row i).2)
  | 0, i, h => absurd h (by (first | exact ar77 | (first | lia | omega)))
  | k + 1, i, h => by
    have hl := rulesAt_len ns row k
    show ((rulesAt ns row k).1 ++ [_])[i]? = _
    by_cases hi : i < k
    · rw [List.getElem?_append_left (by (first | exact ar78 hl hi | (first | lia | omega)))]; exact rulesAt_get ns row k i hi
    · have : i = k := by (first | exact ar79 h hi | (first | lia | omega))
      subst this
      rw [List.getElem?_append_right (by (first | exact ar80 hl | (first | lia | omega))), hl]
      simp
theorem rulesOk (ns : List Int) : RulesOk (rulesAt ns (rowOf ns) 4).1 := by
  have key : ∀ (i : Nat) r, (rulesAt ns (rowOf ns) 4).1[i]? = some r → i < 4 ∧ r = nextRule ns i (rulesAt ns (rowOf ns) i).2 := fun i r h => by
    have hi : i < 4 := by have := (List.getElem?_eq_some_iff.mp h).1; rw [rulesAt_len] at this; exact this
    rw [rulesAt_get ns _ 4 i hi] at h
    exact ⟨hi, (Option.some.inj h).symm⟩
  refine ⟨fun i r h => ?_, fun i r h => ?_, fun i r h => ?_⟩
  · obtain ⟨_, rfl⟩ := key i r h; rfl
  · obtain ⟨hi, rfl⟩ := key i r h; exact (V_lt ((pinv ns i (by (first | exact ar81 hi | (first | lia | omega)))).rule (by (first | exact ar82 hi | (first | lia | omega)))).1).2
  · obtain ⟨hi, rfl⟩ := key i r h; exact (V_lt ((pinv ns i (by (first | exact ar81 hi | (first | lia | omega)))).rule (by (first | exact ar82 hi | (first | lia | omega)))).2).2
/-- unpacking undoes packing -/
theorem unpack_append (r : Rule) (xs ys : List Int) : unpackOf r (xs ++ ys) = unpackOf r xs ++ unpackOf r ys := by simp [unpackOf]
theorem unpack_step (r : Rule) (acc : List Int) (s : Int) (hs : s ≠ r.new) (hl : ∀ x, acc.getLast? = some x → x = r.a → r.a ≠ r.new) : unpackOf r (packStep r acc s) = unpackOf r acc ++ [s] := by
  unfold packStep
  by_cases h : acc ≠ [] ∧ acc.getLast? = some r.a ∧ s = r.b
  · rw [if_pos h]
    obtain ⟨hne, hlast, rfl⟩ := h
    have ha := hl _ hlast rfl
    have hg : acc.getLast hne = r.a := by rw [List.getLast?_eq_some_getLast hne] at hlast; exact Option.some.inj hlast
    have e : acc = acc.dropLast ++ [r.a] := by conv => lhs; rw [← List.dropLast_concat_getLast hne, hg]
    rw [unpack_append]
    conv => rhs; rw [e, unpack_append]
    simp [unpackOf, unp, ha]
  · rw [if_neg h, unpack_append]
    simp [unpackOf, unp, hs]
theorem unpack_fold (r : Rule) (ha : r.a ≠ r.new) : ∀ (row acc : List Int), (∀ x ∈ row, x ≠ r.new) → unpackOf r (row.foldl (packStep r) acc) = unpackOf r acc ++ row
  | [], acc, _ => by simp
  | s :: row, acc, h => by
    rw [List.foldl_cons, unpack_fold r ha row _ (fun x hx => h x (by simp [hx])), unpack_step r acc s (h s (by simp)) (fun _ _ _ => ha)]
    simp
theorem unpack_pack (r : Rule) (ha : r.a ≠ r.new) (row : List Int) (h : ∀ x ∈ row, x ≠ r.new) : unpackOf r (packOf r row) = row := by
  unfold packOf; rw [unpack_fold r ha row [] h]; simp [unpackOf]
theorem unpack_rule (ns : List Int) (k : Nat) (hk : k < 4) : unpackOf (nextRule ns k (rulesAt ns (rowOf ns) k).2) (rulesAt ns (rowOf ns) (k + 1)).2 = (rulesAt ns (rowOf ns) k).2 := by
  have hp := pinv ns k (by (first | exact ar81 hk | (first | lia | omega)))
  obtain ⟨ha, hb⟩ := hp.rule (by (first | exact ar82 hk | (first | lia | omega)))
  refine unpack_pack _ ?_ _ fun x hx => ?_
  · have := (V_lt ha).2
    show _ ≠ 256 + (k : Int)
    (first | exact ar83 this | (first | lia | omega))
  · show x ≠ 256 + (k : Int)
    rcases hp.elems x hx with h | h
    · (first | exact ar84 h | (first | lia | omega))
    · have := (V_lt h).2; (first | exact ar83 this | (first | lia | omega))
/-- letters -/
noncomputable def lettersOf (rs : List Rule) (n : Nat) (p : List Int) : List Int := p.flatMap (letF rs n)
theorem letF_low (rs : List Rule) (n : Nat) (s : Int) (h : s < 256) : letF rs n s = [s] := by cases n <;> simp [letF, h]
theorem letF_fuel (rs : List Rule) (ok : RulesOk rs) : ∀ (n m : Nat) (s : Int), n ≤ rs.length → m ≤ rs.length → s < 256 + n → s < 256 + m → letF rs n s = letF rs m s
  | 0, m, s, _, _, h, _ => by rw [letF_low rs 0 s (by (first | exact ar85 h | (first | lia | omega))), letF_low rs m s (by (first | exact ar85 h | (first | lia | omega)))]
  | n + 1, 0, s, _, _, _, h => by rw [letF_low rs 0 s (by (first | exact ar85 h | (first | lia | omega))), letF_low rs (n + 1) s (by (first | exact ar85 h | (first | lia | omega)))]
  | n + 1, m + 1, s, hn, hm, h1, h2 => by
    by_cases hs : s < 256
    · rw [letF_low _ _ _ hs, letF_low _ _ _ hs]
    · have hi : (s - 256).toNat < rs.length := by (first | exact ar86 hn h1 | (first | lia | omega))
      obtain ⟨r, hr⟩ : ∃ r, rs[(s - 256).toNat]? = some r := ⟨_, List.getElem?_eq_getElem hi⟩
      have hg : rs.getD (s - 256).toNat ⟨0, 0, 0⟩ = r := by rw [List.getD_eq_getElem?_getD, hr]; rfl
      have ha := ok.a _ _ hr
      have hb := ok.b _ _ hr
      simp only [letF, hs, if_false, hg]
      rw [letF_fuel rs ok n m r.a (by (first | exact ar16 hn | (first | lia | omega))) (by (first | exact ar16 hm | (first | lia | omega))) (by (first | exact ar87 h1 ha | (first | lia | omega))) (by (first | exact ar87 h2 ha | (first | lia | omega))), letF_fuel rs ok n m r.b (by (first | exact ar16 hn | (first | lia | omega))) (by (first | exact ar16 hm | (first | lia | omega))) (by (first | exact ar87 h1 hb | (first | lia | omega))) (by (first | exact ar87 h2 hb | (first | lia | omega)))]
end Mq
set_option tactic.hygienic false
namespace Mq
theorem mem_lookupI : ∀ {l : List (Int × Int)} {s v : Int}, l.lookup s = some v → (s, v) ∈ l
  | (a, b) :: l, s, v, h => by
    by_cases q : s = a
    · subst q; simp at h; simp [h]
    · have : (s == a) = false := by simpa using q
      rw [List.lookup_cons, this] at h
      exact List.mem_cons_of_mem _ (mem_lookupI h)
section
variable {rs : List Rule} (ok : RulesOk rs)
include ok
/-- the letters of a symbol -/
theorem letF_rule {i : Nat} {r : Rule} (h : rs[i]? = some r) : letF rs rs.length r.new = letF rs rs.length r.a ++ letF rs rs.length r.b := by
  have hi : i < rs.length := (List.getElem?_eq_some_iff.mp h).1
  have hn := ok.new i r h
  have ha := ok.a i r h
  have hb := ok.b i r h
  obtain ⟨n, hl⟩ : ∃ n, rs.length = n + 1 := ⟨rs.length - 1, by (first | exact ar88 hi | (first | lia | omega))⟩
  have hg : rs.getD (r.new - 256).toNat ⟨0, 0, 0⟩ = r := by
    rw [show (r.new - 256).toNat = i by (first | exact ar89 hn | (first | lia | omega)), List.getD_eq_getElem?_getD, h]; rfl
  have e : letF rs (n + 1) r.new = letF rs n r.a ++ letF rs n r.b := by
    have hs : ¬ r.new < 256 := by (first | exact ar90 hn | (first | lia | omega))
    simp only [letF, hs, if_false, hg]
  rw [hl, e, letF_fuel rs ok n (n + 1) r.a (by (first | exact ar91 hl | (first | lia | omega))) (by (first | exact ar92 hl | (first | lia | omega))) (by (first | exact ar93 hi ha hl | (first | lia | omega))) (by (first | exact ar94 hi ha hl | (first | lia | omega))), letF_fuel rs ok n (n + 1) r.b (by (first | exact ar91 hl | (first | lia | omega))) (by (first | exact ar92 hl | (first | lia | omega))) (by (first | exact ar93 hi hb hl | (first | lia | omega))) (by (first | exact ar94 hi hb hl | (first | lia | omega)))]
theorem letters_unpack {i : Nat} {r : Rule} (h : rs[i]? = some r) (p : List Int) : lettersOf rs rs.length (unpackOf r p) = lettersOf rs rs.length p := by
  unfold lettersOf unpackOf
  rw [List.flatMap_assoc]
  congr 1
  funext x
  unfold unp
  split
  · rename_i hx
    rw [hx, letF_rule ok h]
    simp
  · simp
theorem letF_ne (n : Nat) : ∀ s, letF rs n s ≠ [] := by
  induction n with
  | zero => intro s; simp [letF]
  | succ n ih =>
    intro s
    unfold letF
    split
    · simp
    · intro h
      exact ih _ (List.append_eq_nil_iff.mp h).1
/-- sizes -/
theorem sizes_lookup (i : Nat) (hi : i ≤ rs.length) : ∀ s : Int, s < 256 + (i : Int) → szGet (sizesOf (rs.take i)) s = ((letF rs rs.length s).length : Int) := by
  induction i with
  | zero =>
    intro s hs
    rw [letF_low rs _ s (by (first | exact ar85 hs | (first | lia | omega)))]
    simp [sizesOf, szGet]
  | succ i ih =>
    intro s hs
    obtain ⟨r, hr⟩ : ∃ r, rs[i]? = some r := ⟨_, List.getElem?_eq_getElem (by (first | exact ar95 hi | (first | lia | omega)))⟩
    have hst : sizesOf (rs.take (i + 1)) = sizesOf (rs.take i) ++ [(r.new, szGet (sizesOf (rs.take i)) r.a + szGet (sizesOf (rs.take i)) r.b)] := by
      rw [List.take_add_one, hr]; simp [sizesOf, List.foldl_append]
    have hn := ok.new i r hr
    have hkeys : ∀ x ∈ dKeys (sizesOf (rs.take i)), x < 256 + (i : Int) := fun x hx => by
      rw [sizesOf_keys] at hx
      obtain ⟨r', hr', rfl⟩ := List.mem_map.mp hx
      obtain ⟨j, hj, rfl⟩ := List.mem_iff_getElem.mp hr'
      have hj2 : j < i := by simp at hj; (first | exact ar31 hj | (first | lia | omega))
      have := ok.new j _ (show rs[j]? = some ((rs.take i)[j]) by rw [List.getElem_take]; exact List.getElem?_eq_getElem (by (first | exact ar96 hi hj2 | (first | lia | omega))))
      (first | exact ar97 hj2 this | (first | lia | omega))
    by_cases hsi : s = r.new
    · have hnone : (sizesOf (rs.take i)).lookup s = none := by
        cases q : (sizesOf (rs.take i)).lookup s with
        | none => rfl
        | some v =>
          have hm : s ∈ dKeys (sizesOf (rs.take i)) := List.mem_map.mpr ⟨(s, v), mem_lookupI q, rfl⟩
          have := hkeys s hm
          (first | exact (ar98 hn hsi this).elim | (first | lia | omega))
      have e1 : szGet (sizesOf (rs.take (i + 1))) s = szGet (sizesOf (rs.take i)) r.a + szGet (sizesOf (rs.take i)) r.b := by
        rw [hst]
        unfold szGet
        rw [List.lookup_append, hnone]
        simp [hsi]
      rw [e1, ih (by (first | exact ar16 hi | (first | lia | omega))) r.a (ok.a i r hr), ih (by (first | exact ar16 hi | (first | lia | omega))) r.b (ok.b i r hr), hsi, letF_rule ok hr]
      simp
    · have e1 : szGet (sizesOf (rs.take (i + 1))) s = szGet (sizesOf (rs.take i)) s := by
        rw [hst]
        unfold szGet
        rw [List.lookup_append]
        have : (s == r.new) = false := by simpa using hsi
        cases (sizesOf (rs.take i)).lookup s <;> simp [this]
      rw [e1]
      exact ih (by (first | exact ar16 hi | (first | lia | omega))) s (by (first | exact ar99 hs hn hsi | (first | lia | omega)))
theorem sizes_letters (s : Int) (hs : s < 256 + (rs.length : Int)) : szGet (sizesOf rs) s = ((letF rs rs.length s).length : Int) := by
  have := sizes_lookup ok rs.length (Nat.le_refl _) s hs
  rwa [List.take_length] at this
theorem begin_letters : ∀ (p : List Int), (∀ x ∈ p, x < 256 + (rs.length : Int)) → (p.map (szGet (sizesOf rs))).sum = ((lettersOf rs rs.length p).length : Int)
  | [], _ => by simp [lettersOf]
  | x :: p, h => by
    have ih := begin_letters p (fun y hy => h y (by simp [hy]))
    rw [List.map_cons, List.sum_cons, sizes_letters ok x (h x (by simp)), ih]
    simp [lettersOf]
end
theorem letters_row (rs : List Rule) (n : Nat) (row : List Int) (h : ∀ x ∈ row, x < 256) : lettersOf rs n row = row := by
  unfold lettersOf
  induction row with
  | nil => rfl
  | cons x row ih => rw [List.flatMap_cons, letF_low rs n x (h x (by simp)), ih (fun y hy => h y (by simp [hy]))]; simp
theorem row_low (ns : List Int) : ∀ x ∈ rowOf ns, x < 256 := fun x hx => by
  rcases (pinv ns 0 (by (first | exact ar100 | (first | lia | omega)))).elems x hx with h | h
  · (first | exact ar101 h | (first | lia | omega))
  · have := (V_lt h).2; (first | exact ar85 this | (first | lia | omega))
theorem packed_low (ns : List Int) (k : Nat) (hk : k ≤ 4) : ∀ x ∈ (rulesAt ns (rowOf ns) k).2, x < 256 + (k : Int) := fun x hx => by
  rcases (pinv ns k hk).elems x hx with h | h
  · (first | exact ar102 h | (first | lia | omega))
  · exact (V_lt h).2
theorem letters_packed (ns : List Int) : lettersOf (rulesAt ns (rowOf ns) 4).1 4 (rulesAt ns (rowOf ns) 4).2 = rowOf ns := by
  have ok := rulesOk ns
  have hl := rulesAt_len ns (rowOf ns) 4
  have step : ∀ k, k < 4 → lettersOf (rulesAt ns (rowOf ns) 4).1 4 (rulesAt ns (rowOf ns) (k + 1)).2 = lettersOf (rulesAt ns (rowOf ns) 4).1 4 (rulesAt ns (rowOf ns) k).2 := fun k hk => by
    have hu := unpack_rule ns k hk
    have hr := rulesAt_get ns (rowOf ns) 4 k hk
    have := letters_unpack ok hr (rulesAt ns (rowOf ns) (k + 1)).2
    rw [hl, hu] at this
    exact this.symm
  rw [step 3 (by (first | exact ar103 | (first | lia | omega))), step 2 (by (first | exact ar104 | (first | lia | omega))), step 1 (by (first | exact ar105 | (first | lia | omega))), step 0 (by (first | exact ar106 | (first | lia | omega)))]
  exact letters_row _ _ _ (row_low ns)
end Mq
set_option tactic.hygienic false
namespace Mq
noncomputable def cut (l : List Int) : List Int := l.foldr (fun x acc => readStep acc x) []
theorem cut_eq : ∀ {l : List Int}, 0 ∈ l → cut l = l.takeWhile (· != 0) ++ [0]
  | [], h => by simp at h
  | a :: l, h => by
    by_cases ha : a = 0
    · subst ha; simp [cut, readStep]
    · have h' : 0 ∈ l := by simpa [Ne.symm ha] using h
      have ih := cut_eq h'
      have e : cut (a :: l) = a :: cut l := by simp [cut, readStep, ha]
      rw [e, ih]
      simp [List.takeWhile_cons, ha]
noncomputable def sufReads (rs : List Rule) : List Int → List (List Int)
  | [] => []
  | x :: p => cut (lettersOf rs rs.length (x :: p)) :: sufReads rs p
theorem sufReads_head (rs : List Rule) (p : List Int) : (sufReads rs p).headD [] = cut (lettersOf rs rs.length p) := by cases p <;> rfl
theorem sufReads_len (rs : List Rule) : ∀ p, (sufReads rs p).length = p.length
  | [] => rfl
  | x :: p => by simp [sufReads, sufReads_len rs p]
theorem readOf_suf (rs : List Rule) (x : Int) (p : List Int) : readOf rs (sufReads rs p) x = sufReads rs (x :: p) := by
  unfold readOf
  rw [sufReads_head, List.foldl_reverse]
  simp [sufReads, cut, lettersOf]
theorem suf_fold (rs : List Rule) : ∀ q : List Int, q.reverse.foldl (readOf rs) [] = sufReads rs q
  | [] => rfl
  | x :: q => by rw [List.reverse_cons, List.foldl_append, suf_fold rs q]; exact readOf_suf rs x q
theorem suf_take (rs : List Rule) (p : List Int) (i : Nat) : (p.reverse.take i).foldl (readOf rs) [] = sufReads rs (p.drop (p.length - i)) := by
  rw [List.take_reverse]
  exact suf_fold rs _
theorem suf_get (rs : List Rule) : ∀ (p : List Int) (j : Nat), j < p.length → (sufReads rs p)[j]? = some (cut (lettersOf rs rs.length (p.drop j)))
  | [], j, h => by simp at h
  | x :: p, 0, h => by simp [sufReads]
  | x :: p, j + 1, h => by simp only [sufReads, List.getElem?_cons_succ, List.drop_succ_cons]; exact suf_get rs p j (by simpa using h)
/-- all about the places of the packed row -/
structure Places (rs : List Rule) (row packed : List Int) : Prop where
  ok : RulesOk rs
  lett : lettersOf rs rs.length packed = row
  low : ∀ x ∈ packed, x < 256 + (rs.length : Int)
  last : row.getLast? = some 0
theorem places_of (ns : List Int) : Places (rulesAt ns (rowOf ns) 4).1 (rowOf ns) (rulesAt ns (rowOf ns) 4).2 := by
  have hl := rulesAt_len ns (rowOf ns) 4
  refine ⟨rulesOk ns, by rw [hl]; exact letters_packed ns, ?_, ?_⟩
  · rw [hl]; exact packed_low ns 4 (by (first | exact ar107 | (first | lia | omega)))
  · simp [rowOf]
namespace Places
variable {rs : List Rule} {row packed : List Int} (h : Places rs row packed)
include h
theorem begin_eq (j : Nat) : beginAt (sizesOf rs) packed j = ((lettersOf rs rs.length (packed.take j)).length : Int) := begin_letters h.ok _ fun x hx => h.low x (List.mem_of_mem_take hx)
theorem split_eq (j : Nat) : lettersOf rs rs.length (packed.take j) ++ lettersOf rs rs.length (packed.drop j) = row := by
  rw [← h.lett]
  unfold lettersOf
  rw [← List.flatMap_append, List.take_append_drop]
theorem drop_eq (j : Nat) : row.drop (beginAt (sizesOf rs) packed j).toNat = lettersOf rs rs.length (packed.drop j) := by
  rw [h.begin_eq, Int.toNat_natCast, ← h.split_eq j]
  exact List.drop_left ..
theorem zero_in (j : Nat) (hj : j < packed.length) : 0 ∈ row.drop (beginAt (sizesOf rs) packed j).toNat := by
  rw [h.drop_eq]
  have e := h.split_eq j
  have hne : lettersOf rs rs.length (packed.drop j) ≠ [] := by
    rw [List.drop_eq_getElem_cons hj]
    unfold lettersOf
    rw [List.flatMap_cons]
    intro q
    exact letF_ne h.ok _ _ (List.append_eq_nil_iff.mp q).1
  have hl := h.last
  rw [← e, List.getLast?_append] at hl
  cases q : (lettersOf rs rs.length (packed.drop j)).getLast? with
  | none => rw [List.getLast?_eq_none_iff] at q; exact absurd q hne
  | some y => rw [q] at hl; simp at hl; subst hl; exact List.mem_of_getLast? q
theorem nonneg (j : Nat) : 0 ≤ beginAt (sizesOf rs) packed j := by rw [h.begin_eq]; (first | exact ar24 | (first | lia | omega))
/-- readings are the rests with a 0 behind -/
theorem readings : sufReads rs packed = (restsOf (sizesOf rs) row packed packed.length).map (· ++ [0]) := by
  apply List.ext_getElem?
  intro j
  by_cases hj : j < packed.length
  · rw [suf_get rs packed j hj]
    have hz := h.zero_in j hj
    rw [List.getElem?_map]
    unfold restsOf
    rw [List.getElem?_map, List.getElem?_range hj]
    simp only [Option.map_some, Option.some.injEq]
    rw [← h.drop_eq]
    exact cut_eq hz
  · rw [List.getElem?_eq_none (by rw [sufReads_len]; (first | exact ar108 hj | (first | lia | omega))), List.getElem?_eq_none (by simp [restsOf]; (first | exact ar108 hj | (first | lia | omega)))]
end Places
end Mq
set_option tactic.hygienic false
namespace Mq
open PySem
/-- order of lists: one answer of three -/
noncomputable def tri : List Int → List Int → Int
  | [], [] => 0
  | [], _ :: _ => -1
  | _ :: _, [] => 1
  | a :: l, b :: m => if a = b then tri l m else if a < b then -1 else 1
theorem lex_lt : ∀ l m, lexI .Lt l m = decide (tri l m < 0)
  | [], [] => by decide
  | [], _ :: _ => by simp [lexI, opI, tri]
  | _ :: _, [] => by simp [lexI, opI, tri]
  | a :: l, b :: m => by
    unfold lexI tri
    split
    · exact lex_lt l m
    · split
      · rename_i h; simp [opI, h]
      · rename_i h; simp [opI, h]
theorem lex_gt : ∀ l m, lexI .Gt l m = decide (0 < tri l m)
  | [], [] => by decide
  | [], _ :: _ => by simp [lexI, opI, tri]
  | _ :: _, [] => by simp [lexI, opI, tri]
  | a :: l, b :: m => by
    unfold lexI tri
    split
    · exact lex_gt l m
    · split
      · rename_i h h'; simp [opI]; (first | exact ar109 h' | (first | lia | omega))
      · rename_i h h'; simp [opI]; (first | exact ar110 h h' | (first | lia | omega))
theorem lex_le : ∀ l m, lexI .LtE l m = decide (tri l m ≤ 0)
  | [], [] => by decide
  | [], _ :: _ => by simp [lexI, opI, tri]
  | _ :: _, [] => by simp [lexI, opI, tri]
  | a :: l, b :: m => by
    unfold lexI tri
    split
    · exact lex_le l m
    · split
      · rename_i h h'; simp [opI]; (first | exact ar109 h' | (first | lia | omega))
      · rename_i h h'; simp [opI]; (first | exact ar110 h h' | (first | lia | omega))
theorem lex_ge : ∀ l m, lexI .GtE l m = decide (0 ≤ tri l m)
  | [], [] => by decide
  | [], _ :: _ => by simp [lexI, opI, tri]
  | _ :: _, [] => by simp [lexI, opI, tri]
  | a :: l, b :: m => by
    unfold lexI tri
    split
    · exact lex_ge l m
    · split
      · rename_i h h'; simp [opI]; (first | exact ar111 h' | (first | lia | omega))
      · rename_i h h'; simp [opI]; (first | exact ar112 h' | (first | lia | omega))
theorem tri_eq : ∀ l m, tri l m = 0 ↔ l = m
  | [], [] => by simp [tri]
  | [], _ :: _ => by simp [tri]
  | _ :: _, [] => by simp [tri]
  | a :: l, b :: m => by
    unfold tri
    split
    · rename_i h; rw [tri_eq l m]; simp [h]
    · rename_i h; split <;> simp [h]
theorem tri_vals : ∀ l m, tri l m = 0 ∨ tri l m = -1 ∨ tri l m = 1
  | [], [] => by simp [tri]
  | [], _ :: _ => by simp [tri]
  | _ :: _, [] => by simp [tri]
  | a :: l, b :: m => by
    unfold tri
    split
    · exact tri_vals l m
    · split <;> simp
/-- a zero behind changes no order of positive rows -/
theorem tri_zero : ∀ {l m : List Int}, (∀ x ∈ l, 0 < x) → (∀ x ∈ m, 0 < x) → tri (l ++ [0]) (m ++ [0]) = tri l m
  | [], [], _, _ => by decide
  | [], b :: m, _, h => by
    have := h b (by simp)
    simp only [List.nil_append, List.cons_append, tri]
    rw [if_neg (by (first | exact ar113 this | (first | lia | omega))), if_pos this]
  | a :: l, [], h, _ => by
    have := h a (by simp)
    simp only [List.nil_append, List.cons_append, tri]
    rw [if_neg (by (first | exact ar114 this | (first | lia | omega))), if_neg (by (first | exact ar115 this | (first | lia | omega)))]
  | a :: l, b :: m, h, h' => by
    simp only [List.cons_append, tri]
    rw [tri_zero (fun x hx => h x (by simp [hx])) (fun x hx => h' x (by simp [hx]))]
/-- the comparing function's sign -/
theorem cmp_sign {l m : List Int} (hl : l ≠ []) (hm : m ≠ []) : (cmpOf l m < 0 ↔ tri l m < 0) ∧ (0 < cmpOf l m ↔ 0 < tri l m) ∧ (cmpOf l m = 0 ↔ tri l m = 0) := by
  have hd : (if l.headD 0 - m.headD 0 = 0 then True else (tri l m = if l.headD 0 < m.headD 0 then -1 else 1)) := by
    cases l with
    | nil => exact absurd rfl hl
    | cons a l =>
      cases m with
      | nil => exact absurd rfl hm
      | cons b m =>
        by_cases h : a = b
        · simp [h]
        · have : ¬ (a - b = 0) := by (first | exact ar116 h | (first | lia | omega))
          simp [tri, h, this]
  unfold cmpOf
  by_cases h : l.headD 0 - m.headD 0 = 0
  · rw [if_pos h, lex_gt, lex_lt]
    rcases tri_vals l m with q | q | q <;> rw [q] <;> decide
  · rw [if_neg h] at hd ⊢
    rw [hd]
    split <;> (first | exact ar117 (by assumption) | exact ar118 h (by assumption) | (first | lia | omega))
end Mq
set_option tactic.hygienic false
namespace Mq
open PySem PySem.W PyProof.Rows
/-- the tree's answer under a plain order -/
noncomputable def keval {α : Type} (lt : Nat → Nat → Bool) : KasT α → α
  | .ret a => a
  | .ask i j k => keval lt (k (lt i j))
theorem keval_bind {α β : Type} (lt : Nat → Nat → Bool) (f : α → KasT β) : ∀ t : KasT α, keval lt (t.bind f) = keval lt (f (keval lt t))
  | .ret _ => rfl
  | .ask i j k => keval_bind lt f (k (lt i j))
/-- a weak order -/
structure Weak (lt : Nat → Nat → Bool) : Prop where
  asym : ∀ a b, lt a b = true → lt b a = false
  trans : ∀ a b c, lt b a = false → lt c b = false → lt c a = false
section
variable {lt : Nat → Nat → Bool} (W : Weak lt)
/-- the order with places for ties -/
noncomputable def TT (lt : Nat → Nat → Bool) (a b : Nat) : Prop := lt a b = true ∨ (lt b a = false ∧ a < b)
include W
theorem Weak.irr (a : Nat) : lt a a = false := by
  cases h : lt a a with
  | false => rfl
  | true => have := W.asym a a h; rw [h] at this; exact this
theorem TT.le {a b : Nat} (h : TT lt a b) : lt b a = false := h.elim (W.asym a b) (·.1)
theorem TT.trans {a b c : Nat} (h : TT lt a b) (h' : TT lt b c) : TT lt a c := by
  have h1 := TT.le W h
  have h2 := TT.le W h'
  have h3 := W.trans a b c h1 h2
  by_cases q : lt a c = true
  · exact .inl q
  · have q' : lt a c = false := by simpa using q
    refine .inr ⟨h3, ?_⟩
    -- all equal
    have e1 : lt a b = false := W.trans b c a h2 q'
    have e2 : lt b c = false := W.trans c a b q' h1
    rcases h with h | ⟨_, h⟩
    · rw [e1] at h; cases h
    · rcases h' with h' | ⟨_, h'⟩
      · rw [e2] at h'; cases h'
      · (first | exact ar153 h h' | (first | lia | omega))
theorem TT.irr {a : Nat} (h : TT lt a a) : False := by
  rcases h with h | ⟨_, h⟩
  · rw [W.irr] at h; cases h
  · (first | exact ar154 h | (first | lia | omega))
end
noncomputable def at0 (p : Array Nat) (x : Nat) : Nat := p.getD x 0
noncomputable def Srt (lt : Nat → Nat → Bool) (p : Array Nat) (k : Nat) : Prop := ∀ x y, x < y → y < k → TT lt (at0 p x) (at0 p y)
noncomputable def IdFrom (p : Array Nat) (k n : Nat) : Prop := ∀ x, k ≤ x → x < n → at0 p x = x
noncomputable def LowTo (p : Array Nat) (k : Nat) : Prop := ∀ x, x < k → at0 p x < k
theorem Srt.snoc {lt : Nat → Nat → Bool} (W : Weak lt) {p : Array Nat} {k : Nat} (h : Srt lt p (k + 1)) (hl : TT lt (at0 p k) (at0 p (k + 1))) : Srt lt p (k + 2) := fun x y hxy hy => by
  by_cases q : y < k + 1
  · exact h x y hxy q
  · have : y = k + 1 := by (first | exact ar155 hy q | (first | lia | omega))
    subst this
    by_cases q' : x = k
    · subst q'; exact hl
    · exact TT.trans W (h x k (by (first | exact ar156 hxy q' | (first | lia | omega))) (by (first | exact ar157 | (first | lia | omega)))) hl
theorem IdFrom.mono {p : Array Nat} {k n : Nat} (h : IdFrom p k n) {k' : Nat} (hk : k ≤ k') : IdFrom p k' n := fun x a b => h x (by (first | exact ar158 hk a | (first | lia | omega))) b
theorem LowTo.snoc {p : Array Nat} {k n : Nat} (h : LowTo p k) (hi : IdFrom p k n) (hk : k < n) : LowTo p (k + 1) := fun x hx => by
  by_cases q : x < k
  · have := h x q; (first | exact ar159 this | (first | lia | omega))
  · have : x = k := by (first | exact ar79 hx q | (first | lia | omega))
    subst this
    rw [hi x (by (first | exact ar160 | (first | lia | omega))) hk]; (first | exact ar157 | (first | lia | omega))
/-- going up -/
theorem asc_ok {lt : Nat → Nat → Bool} (W : Weak lt) (p : Array Nat) (n : Nat) : ∀ (f m : Nat), 1 ≤ m → m + f = n → Srt lt p m → IdFrom p m n → LowTo p m →
    ∃ m', keval lt (kas_asc p f m) = m' ∧ m ≤ m' ∧ m' ≤ n ∧ Srt lt p m' ∧ LowTo p m' ∧ (m' < n → lt m' (at0 p (m' - 1)) = true)
  | 0, m, h1, hf, hs, hi, hl => ⟨m, rfl, Nat.le_refl _, by (first | exact ar161 hf | (first | lia | omega)), hs, hl, fun h => absurd h (by (first | exact ar162 hf | (first | lia | omega)))⟩
  | f + 1, m, h1, hf, hs, hi, hl => by
    have hm : at0 p m = m := hi m (Nat.le_refl _) (by (first | exact ar28 hf | (first | lia | omega)))
    show ∃ m', keval lt ((fun c => if c = true then KasT.ret m else kas_asc p f (m + 1)) (lt (at0 p m) (at0 p (m - 1)))) = m' ∧ _
    rw [hm]
    cases q : lt m (at0 p (m - 1)) with
    | true => exact ⟨m, by simp [keval], Nat.le_refl _, by (first | exact ar163 hf | (first | lia | omega)), hs, hl, fun _ => q⟩
    | false =>
      have hlow := hl (m - 1) (by (first | exact ar164 h1 | (first | lia | omega)))
      have ht : TT lt (at0 p (m - 1)) (at0 p m) := .inr ⟨by rw [hm]; exact q, by rw [hm]; (first | exact ar165 hlow | (first | lia | omega))⟩
      have hs' : Srt lt p (m + 1) := by
        obtain ⟨k, rfl⟩ : ∃ k, m = k + 1 := ⟨m - 1, by (first | exact ar166 h1 | (first | lia | omega))⟩
        exact Srt.snoc W hs ht
      obtain ⟨m', e, a, b, c, d, g⟩ := asc_ok W p n f (m + 1) (by (first | exact ar167 | (first | lia | omega))) (by (first | exact ar33 hf | (first | lia | omega))) hs' (hi.mono (by (first | exact ar22 | (first | lia | omega)))) (hl.snoc hi (by (first | exact ar28 hf | (first | lia | omega))))
      exact ⟨m', by simpa using e, by (first | exact ar16 a | (first | lia | omega)), b, c, d, g⟩
theorem at0_rev {p : Array Nat} {i j : Nat} (hj : j ≤ p.size) (x : Nat) : at0 (kas_rev p i j) x = if i ≤ x ∧ x < j then at0 p (i + j - 1 - x) else at0 p x := by
  unfold at0 kas_rev
  rw [Array.getD_eq_getD_getElem?, getElem?_mirror_all hj]
  split <;> simp [Array.getD_eq_getD_getElem?]
theorem rev_one (p : Array Nat) (n : Nat) (hn : 1 ≤ n) : kas_rev p (n - 1) n = p := by
  have : (n - (n - 1)) / 2 = 0 := by (first | exact ar168 | (first | lia | omega))
  unfold kas_rev mirror
  rw [this]; rfl
theorem rev_size (p : Array Nat) (i j : Nat) : (kas_rev p i j).size = p.size := mirror_size _ _ _ _
theorem rev_perm (p : Array Nat) (i j : Nat) : (kas_rev p i j).Perm p := mirror_perm _ _ _ _
/-- the first m items fall, the rest is as it was -/
structure Fall (lt : Nat → Nat → Bool) (p : Array Nat) (m n : Nat) : Prop where
  fall : ∀ x y, x < y → y < m → TT lt (at0 p y) (at0 p x)
  id : IdFrom p m n
  low : LowTo p m
theorem Fall.rev {lt : Nat → Nat → Bool} {p : Array Nat} {m n : Nat} (h : Fall lt p m n) (hm : m ≤ p.size) : Srt lt (kas_rev p 0 m) m ∧ IdFrom (kas_rev p 0 m) m n ∧ LowTo (kas_rev p 0 m) m := by
  refine ⟨fun x y hx hy => ?_, fun x hx hn => ?_, fun x hx => ?_⟩
  · rw [at0_rev hm, at0_rev hm, if_pos ⟨by (first | exact ar41 | (first | lia | omega)), by (first | exact ar153 hx hy | (first | lia | omega))⟩, if_pos ⟨by (first | exact ar41 | (first | lia | omega)), by (first | exact ar165 hy | (first | lia | omega))⟩]
    exact h.fall _ _ (by (first | exact ar169 hx hy | (first | lia | omega))) (by (first | exact ar170 hy | (first | lia | omega)))
  · rw [at0_rev hm, if_neg (by (first | exact ar171 hx | (first | lia | omega)))]; exact h.id x hx hn
  · rw [at0_rev hm, if_pos ⟨by (first | exact ar41 | (first | lia | omega)), hx⟩]; exact h.low _ (by (first | exact ar172 hx | (first | lia | omega)))
theorem Srt.rev {lt : Nat → Nat → Bool} {p : Array Nat} {m n : Nat} (h : Srt lt p m) (hi : IdFrom p m n) (hl : LowTo p m) (hm : m ≤ p.size) : Fall lt (kas_rev p 0 m) m n := by
  refine ⟨fun x y hx hy => ?_, fun x hx hn => ?_, fun x hx => ?_⟩
  · rw [at0_rev hm, at0_rev hm, if_pos ⟨by (first | exact ar41 | (first | lia | omega)), by (first | exact ar165 hy | (first | lia | omega))⟩, if_pos ⟨by (first | exact ar41 | (first | lia | omega)), by (first | exact ar153 hx hy | (first | lia | omega))⟩]
    exact h _ _ (by (first | exact ar169 hx hy | (first | lia | omega))) (by (first | exact ar170 hy | (first | lia | omega)))
  · rw [at0_rev hm, if_neg (by (first | exact ar171 hx | (first | lia | omega)))]; exact hi x hx hn
  · rw [at0_rev hm, if_pos ⟨by (first | exact ar41 | (first | lia | omega)), hx⟩]; exact hl _ (by (first | exact ar172 hx | (first | lia | omega)))
/-- on the way down: the last q + 1 items are equal and stand in the order of their places -/
structure Dn (lt : Nat → Nat → Bool) (p : Array Nat) (m q n : Nat) : Prop where
  pos : q + 1 ≤ m
  fall : ∀ x y, x < y → y < m - (q + 1) → TT lt (at0 p y) (at0 p x)
  cross : ∀ x y, x < m - (q + 1) → m - (q + 1) ≤ y → y < m → lt (at0 p y) (at0 p x) = true
  eqs : ∀ x y, m - (q + 1) ≤ x → x < y → y < m → lt (at0 p x) (at0 p y) = false ∧ lt (at0 p y) (at0 p x) = false ∧ at0 p x < at0 p y
  id : IdFrom p m n
  low : LowTo p m
theorem Dn.rev {lt : Nat → Nat → Bool} {p : Array Nat} {m q n : Nat} (h : Dn lt p m q n) (hm : m ≤ p.size) : Fall lt (kas_rev p (m - (q + 1)) m) m n := by
  have hq := h.pos
  refine ⟨fun x y hx hy => ?_, fun x hx hn => ?_, fun x hx => ?_⟩
  · rw [at0_rev hm, at0_rev hm]
    by_cases c1 : m - (q + 1) ≤ x
    · rw [if_pos ⟨by (first | exact ar173 hx c1 | (first | lia | omega)), by (first | exact ar165 hy | (first | lia | omega))⟩, if_pos ⟨by (first | exact ar174 c1 | (first | lia | omega)), by (first | exact ar153 hx hy | (first | lia | omega))⟩]
      have := h.eqs (m - (q + 1) + m - 1 - y) (m - (q + 1) + m - 1 - x) (by (first | exact ar175 hy | (first | lia | omega))) (by (first | exact ar176 hx hy | (first | lia | omega))) (by (first | exact ar177 hq c1 | (first | lia | omega)))
      exact .inr ⟨this.2.1, this.2.2⟩
    · rw [if_neg (c := _ ∧ x < m) (by (first | exact ar178 c1 | (first | lia | omega)))]
      by_cases c2 : m - (q + 1) ≤ y
      · rw [if_pos ⟨by (first | exact ar174 c2 | (first | lia | omega)), by (first | exact ar165 hy | (first | lia | omega))⟩]
        exact .inl (h.cross _ _ (by (first | exact ar179 c1 | (first | lia | omega))) (by (first | exact ar175 hy | (first | lia | omega))) (by (first | exact ar177 hq c2 | (first | lia | omega))))
      · rw [if_neg (by (first | exact ar178 c2 | (first | lia | omega)))]
        exact h.fall _ _ hx (by (first | exact ar179 c2 | (first | lia | omega)))
  · rw [at0_rev hm, if_neg (by (first | exact ar180 hx | (first | lia | omega)))]; exact h.id x hx hn
  · rw [at0_rev hm]
    split
    · exact h.low _ (by (first | exact ar181 (by assumption) | (first | lia | omega)))
    · exact h.low _ hx
theorem Fall.dn {lt : Nat → Nat → Bool} {p : Array Nat} {m n : Nat} (h : Fall lt p m n) (hm : m < n) (hlt : ∀ x, x < m → lt m (at0 p x) = true) : Dn lt p (m + 1) 0 n := by
  have hid : at0 p m = m := h.id m (Nat.le_refl _) hm
  refine ⟨by (first | exact ar182 | (first | lia | omega)), fun x y a b => h.fall x y a (by (first | exact ar183 b | (first | lia | omega))), fun x y a b c => ?_, fun x y a b c => by (first | exact (ar184 a b c).elim | (first | lia | omega)), h.id.mono (by (first | exact ar22 | (first | lia | omega))), h.low.snoc h.id hm⟩
  have : y = m := by (first | exact ar185 b c | (first | lia | omega))
  subst this
  rw [hid]; exact hlt x (by (first | exact ar183 a | (first | lia | omega)))
theorem Fall.all {lt : Nat → Nat → Bool} (W : Weak lt) {p : Array Nat} {m n : Nat} (h : Fall lt p m n) (a : Nat) (h1 : 1 ≤ m) (hl : lt a (at0 p (m - 1)) = true) : ∀ x, x < m → lt a (at0 p x) = true := fun x hx => by
  by_cases q : x = m - 1
  · subst q; exact hl
  · have ht := TT.le W (h.fall x (m - 1) (by (first | exact ar186 hx q | (first | lia | omega))) (by (first | exact ar164 h1 | (first | lia | omega))))
    cases e : lt a (at0 p x) with
    | true => rfl
    | false => have := W.trans _ _ _ ht e; rw [hl] at this; cases this
theorem rev_any (p : Array Nat) (m q : Nat) (hm : 1 ≤ m) : (if q > 0 then kas_rev p (m - (q + 1)) m else p) = kas_rev p (m - (q + 1)) m := by
  split
  · rfl
  · have : q = 0 := by (first | exact ar187 (by assumption) | (first | lia | omega))
    subst this
    exact (rev_one p m hm).symm
theorem desc_ok {lt : Nat → Nat → Bool} (W : Weak lt) (n : Nat) : ∀ (f : Nat) (p : Array Nat) (m q : Nat), m + f = n → n ≤ p.size → Dn lt p m q n →
    ∃ p' m' q', keval lt (kas_desc f p m q) = (p', m', q') ∧ m' ≤ n ∧ p'.Perm p ∧ Dn lt p' m' q' n
  | 0, p, m, q, hf, hn, h => ⟨p, m, q, rfl, by (first | exact ar161 hf | (first | lia | omega)), .refl _, h⟩
  | f + 1, p, m, q, hf, hn, h => by
    have hm : at0 p m = m := h.id m (Nat.le_refl _) (by (first | exact ar28 hf | (first | lia | omega)))
    have hq := h.pos
    have ek : keval lt (kas_desc (f + 1) p m q) = (if lt (at0 p m) (at0 p (m - 1)) = true then keval lt (kas_desc f (kas_rev p (m - (q + 1)) m) (m + 1) 0)
        else if lt (at0 p (m - 1)) (at0 p m) = true then (p, m, q) else keval lt (kas_desc f p (m + 1) (q + 1))) := by
      rw [← rev_any p m q (by (first | exact ar188 hq | (first | lia | omega)))]
      show keval lt (if lt (at0 p m) (at0 p (m - 1)) = true then _ else _) = _
      by_cases c : lt (at0 p m) (at0 p (m - 1)) = true
      · rw [if_pos c, if_pos c]; split <;> rfl
      · rw [if_neg c, if_neg c]
        show keval lt (if lt (at0 p (m - 1)) (at0 p m) = true then _ else _) = _
        split <;> rfl
    rw [ek, hm]
    by_cases c : lt m (at0 p (m - 1)) = true
    · rw [if_pos c]
      have F := h.rev (by (first | exact ar189 hf hn | (first | lia | omega)))
      have hall : ∀ x, x < m → lt m (at0 (kas_rev p (m - (q + 1)) m) x) = true := by
        have hall0 : ∀ x, x < m → lt m (at0 p x) = true := fun x hx => by
          by_cases e : x = m - 1
          · subst e; exact c
          · have ht : lt (at0 p x) (at0 p (m - 1)) = false := by
              by_cases e' : m - (q + 1) ≤ x
              · exact (h.eqs x (m - 1) e' (by (first | exact ar186 hx e | (first | lia | omega))) (by (first | exact ar190 hq | (first | lia | omega)))).1
              · exact W.asym _ _ (h.cross x (m - 1) (by (first | exact ar179 e' | (first | lia | omega))) (by (first | exact ar191 | (first | lia | omega))) (by (first | exact ar190 hq | (first | lia | omega))))
            cases e2 : lt m (at0 p x) with
            | true => rfl
            | false => have := W.trans _ _ _ ht e2; rw [c] at this; cases this
        intro x hx
        rw [at0_rev (by (first | exact ar189 hf hn | (first | lia | omega)))]
        split
        · exact hall0 _ (by (first | exact ar181 (by assumption) | (first | lia | omega)))
        · exact hall0 _ hx
      obtain ⟨p', m', q', e, a, b, d⟩ := desc_ok W n f (kas_rev p (m - (q + 1)) m) (m + 1) 0 (by (first | exact ar33 hf | (first | lia | omega))) (by rw [rev_size]; exact hn) (F.dn (by (first | exact ar28 hf | (first | lia | omega))) hall)
      exact ⟨p', m', q', e, a, b.trans (rev_perm _ _ _), d⟩
    · rw [if_neg c]
      by_cases c2 : lt (at0 p (m - 1)) m = true
      · rw [if_pos c2]; exact ⟨p, m, q, rfl, by (first | exact ar163 hf | (first | lia | omega)), .refl _, h⟩
      · rw [if_neg c2]
        have c' : lt m (at0 p (m - 1)) = false := by simpa using c
        have c2' : lt (at0 p (m - 1)) m = false := by simpa using c2
        have D : Dn lt p (m + 1) (q + 1) n := by
          refine ⟨by (first | exact ar192 hq | (first | lia | omega)), fun x y a b => h.fall x y a (by (first | exact ar193 b | (first | lia | omega))), fun x y a b d => ?_, fun x y a b d => ?_, h.id.mono (by (first | exact ar22 | (first | lia | omega))), h.low.snoc h.id (by (first | exact ar28 hf | (first | lia | omega)))⟩
          · by_cases e : y = m
            · subst e
              rw [hm]
              have hc := h.cross x (y - 1) (by (first | exact ar193 a | (first | lia | omega))) (by (first | exact ar191 | (first | lia | omega))) (by (first | exact ar190 hq | (first | lia | omega)))
              cases e2 : lt y (at0 p x) with
              | true => rfl
              | false => have := W.trans _ _ _ e2 c2'; rw [hc] at this; cases this
            · exact h.cross x y (by (first | exact ar193 a | (first | lia | omega))) (by (first | exact ar194 b | (first | lia | omega))) (by (first | exact ar156 d e | (first | lia | omega)))
          · by_cases e : y = m
            · subst e
              rw [hm]
              have hlow := h.low x (by (first | exact ar165 b | (first | lia | omega)))
              by_cases e' : x = y - 1
              · subst e'; exact ⟨c2', c', hlow⟩
              · have hc := h.eqs x (y - 1) (by (first | exact ar194 a | (first | lia | omega))) (by (first | exact ar186 b e' | (first | lia | omega))) (by (first | exact ar195 b | (first | lia | omega)))
                exact ⟨W.trans _ _ _ c2' hc.1 , W.trans _ _ _ hc.2.1 c', hlow⟩
            · exact h.eqs x y (by (first | exact ar194 a | (first | lia | omega))) b (by (first | exact ar156 d e | (first | lia | omega)))
        exact desc_ok W n f p (m + 1) (q + 1) (by (first | exact ar33 hf | (first | lia | omega))) hn D
theorem asc_ret {lt : Nat → Nat → Bool} (W : Weak lt) {n : Nat} {p : Array Nat} {m : Nat} (h1 : 1 ≤ m) (hm : m ≤ n) (hn : n ≤ p.size) (h : Fall lt p m n) :
    ∃ m', keval lt (kas_tail3 m n p) = (m', kas_rev p 0 m) ∧ m ≤ m' ∧ m' ≤ n ∧ Srt lt (kas_rev p 0 m) m' ∧ IdFrom (kas_rev p 0 m) m' n ∧ LowTo (kas_rev p 0 m) m' := by
  obtain ⟨a, b, c⟩ := h.rev (by (first | exact ar158 hm hn | (first | lia | omega)))
  obtain ⟨m', e, d1, d2, d3, d4, _⟩ := asc_ok W (kas_rev p 0 m) n (n - m) m h1 (by (first | exact ar196 hm | (first | lia | omega))) a b c
  refine ⟨m', ?_, d1, d2, d3, b.mono d1, d4⟩
  unfold kas_tail3
  rw [keval_bind, e]; rfl
theorem descPart_ok {lt : Nat → Nat → Bool} (W : Weak lt) {n : Nat} {p : Array Nat} {m : Nat} (h1 : 1 ≤ m) (hm : m < n) (hn : n ≤ p.size) (h : Fall lt p m n) (hall : ∀ x, x < m → lt m (at0 p x) = true) :
    ∃ m' p', keval lt (kas_descPart m n p) = (m', p') ∧ 1 ≤ m' ∧ m' ≤ n ∧ p'.Perm p ∧ Srt lt p' m' ∧ IdFrom p' m' n ∧ LowTo p' m' := by
  obtain ⟨p1, m1, q1, e, a, b, d⟩ := desc_ok W n (n - (m + 1)) p (m + 1) 0 (by (first | exact ar197 hm | (first | lia | omega))) hn (h.dn hm hall)
  have hp := d.pos
  have hz : p1.size = p.size := b.size_eq
  have F := d.rev (by (first | exact ar198 hn a hz | (first | lia | omega)))
  obtain ⟨m', e', c1, c2, c3, c4, c5⟩ := asc_ret W (by (first | exact ar188 hp | (first | lia | omega))) a (by rw [rev_size]; (first | exact ar199 hn hz | (first | lia | omega))) F
  refine ⟨m', _, ?_, by (first | exact ar200 hp c1 | (first | lia | omega)), c2, ?_, c3, c4, c5⟩
  · unfold kas_descPart
    rw [keval_bind, e]
    have := rev_any p1 m1 q1 (by (first | exact ar188 hp | (first | lia | omega)))
    show keval lt (if q1 > 0 then kas_tail3 m1 n (kas_rev p1 (m1 - (q1 + 1)) m1) else kas_tail3 m1 n p1) = _
    rw [show (if q1 > 0 then kas_tail3 m1 n (kas_rev p1 (m1 - (q1 + 1)) m1) else kas_tail3 m1 n p1) = kas_tail3 m1 n (if q1 > 0 then kas_rev p1 (m1 - (q1 + 1)) m1 else p1) from by split <;> rfl, this]
    exact e'
  · exact (rev_perm _ _ _).trans ((rev_perm _ _ _).trans b)
theorem count_ok {lt : Nat → Nat → Bool} (W : Weak lt) {n : Nat} {p : Array Nat} (h1 : 1 ≤ n) (hn : n ≤ p.size) (hi : IdFrom p 0 n) :
    ∃ m' p', keval lt (kas_count n p) = (m', p') ∧ 1 ≤ m' ∧ m' ≤ n ∧ p'.Perm p ∧ Srt lt p' m' ∧ IdFrom p' m' n ∧ LowTo p' m' := by
  have hl1 : LowTo p 1 := fun x hx => by
    have : x = 0 := by (first | exact ar201 hx | (first | lia | omega))
    subst this
    rw [hi 0 (by (first | exact ar202 | (first | lia | omega))) (by (first | exact ar203 h1 | (first | lia | omega)))]; (first | exact ar204 | (first | lia | omega))
  obtain ⟨m, e, a, b, c, d, g⟩ := asc_ok W p n (n - 1) 1 (by (first | exact ar205 | (first | lia | omega))) (by (first | exact ar206 h1 | (first | lia | omega))) (fun x y _ _ => by (first | exact (ar207 (by assumption) (by assumption)).elim | (first | lia | omega))) (hi.mono (by (first | exact ar208 | (first | lia | omega)))) hl1
  unfold kas_count
  rw [keval_bind, e]
  by_cases q : m = n
  · subst q
    exact ⟨m, p, by simp [keval], a, b, .refl _, c, hi.mono (by (first | exact ar41 | (first | lia | omega))), d⟩
  · rw [if_neg (by simpa using q)]
    have hg := g (by (first | exact ar209 b q | (first | lia | omega)))
    by_cases q1 : m > 1
    · rw [if_pos q1]
      show ∃ m' p', keval lt (if lt (at0 p 0) (at0 p (m - 1)) = true then _ else _) = _ ∧ _
      by_cases q2 : lt (at0 p 0) (at0 p (m - 1)) = true
      · rw [if_pos q2]
        exact ⟨m, p, rfl, a, b, .refl _, c, hi.mono (by (first | exact ar41 | (first | lia | omega))), d⟩
      · rw [if_neg q2]
        have q2' : lt (at0 p 0) (at0 p (m - 1)) = false := by simpa using q2
        have F := c.rev (hi.mono (by (first | exact ar41 | (first | lia | omega)))) d (by (first | exact ar126 hn b | (first | lia | omega)))
        have hall : ∀ x, x < m → lt m (at0 (kas_rev p 0 m) x) = true := by
          refine F.all W m (by (first | exact ar210 a | (first | lia | omega))) ?_
          rw [at0_rev (by (first | exact ar126 hn b | (first | lia | omega))), if_pos ⟨by (first | exact ar211 | (first | lia | omega)), by (first | exact ar164 a | (first | lia | omega))⟩, show 0 + m - 1 - (m - 1) = 0 by (first | exact ar212 | (first | lia | omega))]
          cases e2 : lt m (at0 p 0) with
          | true => rfl
          | false => have := W.trans _ _ _ q2' e2; rw [hg] at this; cases this
        obtain ⟨m', p', e', r1, r2, r3, r4, r5, r6⟩ := descPart_ok W a (by (first | exact ar209 b q | (first | lia | omega))) (by rw [rev_size]; exact hn) F hall
        exact ⟨m', p', e', r1, r2, r3.trans (rev_perm _ _ _), r4, r5, r6⟩
    · rw [if_neg q1]
      have : m = 1 := by (first | exact ar213 a q1 | (first | lia | omega))
      subst this
      have F : Fall lt p 1 n := ⟨fun x y _ _ => by (first | exact (ar207 (by assumption) (by assumption)).elim | (first | lia | omega)), hi.mono (by (first | exact ar208 | (first | lia | omega))), d⟩
      exact descPart_ok W a (by (first | exact ar214 h1 q | (first | lia | omega))) hn F (F.all W 1 (by (first | exact ar205 | (first | lia | omega))) hg)
/-- where an item goes -/
theorem place_ok {lt : Nat → Nat → Bool} (W : Weak lt) (p : Array Nat) (k : Nat) (hs : Srt lt p k) : ∀ (f l r : Nat), r - l ≤ f → l ≤ r → r ≤ k → (∀ x, x < l → lt (at0 p k) (at0 p x) = false) → (∀ x, r ≤ x → x < k → lt (at0 p k) (at0 p x) = true) →
    ∃ z, keval lt (kas_place p k f l r) = z ∧ z ≤ k ∧ (∀ x, x < z → lt (at0 p k) (at0 p x) = false) ∧ (∀ x, z ≤ x → x < k → lt (at0 p k) (at0 p x) = true)
  | 0, l, r, hf, hl, hr, ha, hb => ⟨l, rfl, by (first | exact ar158 hl hr | (first | lia | omega)), ha, fun x hx => hb x (by (first | exact ar215 hf hx | (first | lia | omega)))⟩
  | f + 1, l, r, hf, hl, hr, ha, hb => by
    unfold kas_place
    by_cases q : l ≥ r
    · rw [if_pos q]; exact ⟨l, rfl, by (first | exact ar158 hl hr | (first | lia | omega)), ha, fun x hx => hb x (by (first | exact ar216 q hx | (first | lia | omega)))⟩
    · rw [if_neg q]
      show ∃ z, keval lt (if lt (at0 p k) (at0 p ((l + r) / 2)) = true then _ else _) = z ∧ _
      by_cases c : lt (at0 p k) (at0 p ((l + r) / 2)) = true
      · rw [if_pos c]
        refine place_ok W p k hs f l ((l + r) / 2) (by (first | exact ar217 hf | (first | lia | omega))) (by (first | exact ar218 hl | (first | lia | omega))) (by (first | exact ar219 hl hr | (first | lia | omega))) ha fun x hx hk => ?_
        by_cases e : x = (l + r) / 2
        · subst e; exact c
        · have ht := TT.le W (hs ((l + r) / 2) x (by (first | exact ar220 hx e | (first | lia | omega))) hk)
          cases e2 : lt (at0 p k) (at0 p x) with
          | true => rfl
          | false => have := W.trans _ _ _ ht e2; rw [c] at this; cases this
      · rw [if_neg c]
        have c' : lt (at0 p k) (at0 p ((l + r) / 2)) = false := by simpa using c
        refine place_ok W p k hs f ((l + r) / 2 + 1) r (by (first | exact ar221 hf | (first | lia | omega))) (by (first | exact ar222 q | (first | lia | omega))) hr (fun x hx => ?_) hb
        by_cases e : x = (l + r) / 2
        · subst e; exact c'
        · exact W.trans _ _ _ (TT.le W (hs x ((l + r) / 2) (by (first | exact ar223 hx e | (first | lia | omega))) (by (first | exact ar224 hr q | (first | lia | omega))))) c'
theorem at0_bubble {p : Array Nat} {k z : Nat} (hk : k < p.size) (hz : z ≤ k) (x : Nat) : at0 (bubble p k (k - z)) x = if x = z then at0 p k else if z < x ∧ x ≤ k then at0 p (x - 1) else at0 p x := by
  unfold at0
  rw [Array.getD_eq_getD_getElem?, getElem?_bubble hk (k - z) (by (first | exact ar225 | (first | lia | omega))), show k - (k - z) = z by (first | exact ar226 hz | (first | lia | omega))]
  split
  · simp [Array.getD_eq_getD_getElem?, hk]
  · split <;> simp [Array.getD_eq_getD_getElem?]
theorem put_ok {lt : Nat → Nat → Bool} (W : Weak lt) {p : Array Nat} {k z n : Nat} (hk : k < p.size) (hkn : k < n) (hz : z ≤ k) (hs : Srt lt p k) (hi : IdFrom p k n) (hl : LowTo p k)
    (ha : ∀ x, x < z → lt (at0 p k) (at0 p x) = false) (hb : ∀ x, z ≤ x → x < k → lt (at0 p k) (at0 p x) = true) :
    Srt lt (bubble p k (k - z)) (k + 1) ∧ IdFrom (bubble p k (k - z)) (k + 1) n ∧ LowTo (bubble p k (k - z)) (k + 1) := by
  have hid : at0 p k = k := hi k (Nat.le_refl _) hkn
  refine ⟨fun x y hx hy => ?_, fun x hx hn => ?_, fun x hx => ?_⟩
  · rw [at0_bubble hk hz, at0_bubble hk hz]
    by_cases c1 : x = z
    · rw [if_pos c1, if_neg (by (first | exact ar227 hx c1 | (first | lia | omega))), if_pos (by (first | exact ar228 hx hy c1 | (first | lia | omega)))]
      exact .inl (hb _ (by (first | exact ar229 hx c1 | (first | lia | omega))) (by (first | exact ar230 hx hy | (first | lia | omega))))
    · rw [if_neg c1]
      by_cases c2 : y = z
      · rw [if_pos c2, if_neg (by (first | exact ar231 hx c2 | (first | lia | omega)))]
        refine .inr ⟨ha x (by (first | exact ar232 hx c2 | (first | lia | omega))), ?_⟩
        have := hl x (by (first | exact ar233 hx hy | (first | lia | omega)))
        (first | exact ar78 hid this | (first | lia | omega))
      · rw [if_neg c2]
        by_cases c3 : z < x
        · rw [if_pos (by (first | exact ar234 hx hy c3 | (first | lia | omega))), if_pos (by (first | exact ar235 hx hy c3 | (first | lia | omega)))]; exact hs _ _ (by (first | exact ar236 hx c3 | (first | lia | omega))) (by (first | exact ar230 hx hy | (first | lia | omega)))
        · rw [if_neg (by (first | exact ar237 c3 | (first | lia | omega)))]
          by_cases c4 : z < y
          · rw [if_pos (by (first | exact ar238 hy c4 | (first | lia | omega)))]; exact hs _ _ (by (first | exact ar239 c1 c3 c4 | (first | lia | omega))) (by (first | exact ar230 hx hy | (first | lia | omega)))
          · rw [if_neg (by (first | exact ar237 c4 | (first | lia | omega)))]; exact hs _ _ (by (first | exact ar165 hx | (first | lia | omega))) (by (first | exact ar240 hz c2 c4 | (first | lia | omega)))
  · rw [at0_bubble hk hz, if_neg (by (first | exact ar241 hz hx | (first | lia | omega))), if_neg (by (first | exact ar242 hx | (first | lia | omega)))]; exact hi x (by (first | exact ar16 hx | (first | lia | omega))) hn
  · rw [at0_bubble hk hz]
    split
    · (first | exact ar243 hid | (first | lia | omega))
    · split
      · have := hl (x - 1) (by (first | exact ar244 hz hx (by assumption) | (first | lia | omega))); (first | exact ar159 this | (first | lia | omega))
      · have := hl x (by (first | exact ar245 hz hx (by assumption) (by assumption) | (first | lia | omega))); (first | exact ar159 this | (first | lia | omega))
theorem bin_ok {lt : Nat → Nat → Bool} (W : Weak lt) (n : Nat) : ∀ (f : Nat) (p : Array Nat) (k : Nat), k + f = n → n ≤ p.size → Srt lt p k → IdFrom p k n → LowTo p k →
    ∃ p', keval lt (kas_bin f p k) = p' ∧ p'.Perm p ∧ Srt lt p' n
  | 0, p, k, hf, hn, hs, hi, hl => ⟨p, rfl, .refl _, by rw [← hf]; exact hs⟩
  | f + 1, p, k, hf, hn, hs, hi, hl => by
    obtain ⟨z, e, a, b, c⟩ := place_ok W p k hs k 0 k (by (first | exact ar246 | (first | lia | omega))) (by (first | exact ar41 | (first | lia | omega))) (by (first | exact ar160 | (first | lia | omega))) (fun x hx => by (first | exact (ar247 hx).elim | (first | lia | omega))) (fun x _ _ => by (first | exact (ar248 (by assumption) (by assumption)).elim | (first | lia | omega)))
    obtain ⟨r1, r2, r3⟩ := put_ok W (n := n) (by (first | exact ar249 hf hn | (first | lia | omega))) (by (first | exact ar28 hf | (first | lia | omega))) a hs hi hl b c
    obtain ⟨p', e', d1, d2⟩ := bin_ok W n f (bubble p k (k - z)) (k + 1) (by (first | exact ar33 hf | (first | lia | omega))) (by rw [bubble_size]; exact hn) r1 r2 r3
    refine ⟨p', ?_, d1.trans (bubble_perm _ _ _), d2⟩
    unfold kas_bin
    rw [keval_bind, e]
    exact e'
/-- the sort's answer -/
theorem sort_ok {lt : Nat → Nat → Bool} (W : Weak lt) (n : Nat) (h1 : 1 ≤ n) : ∃ p, keval lt (kas_sort n) = p ∧ p.Perm (List.range n).toArray ∧ Srt lt p n := by
  have hz : ((List.range n).toArray).size = n := by simp
  have hi : IdFrom (List.range n).toArray 0 n := fun x _ hx => by unfold at0; simp [Array.getD_eq_getD_getElem?, hx]
  obtain ⟨m, p, e, a, b, c, d1, d2, d3⟩ := count_ok W (p := (List.range n).toArray) h1 (by (first | exact ar250 hz | (first | lia | omega))) hi
  have hp : p.size = n := by rw [c.size_eq, hz]
  unfold kas_sort
  rw [keval_bind, e]
  show ∃ q, keval lt (if m < n then kas_bin (n - max m 1) p (max m 1) else .ret p) = q ∧ _
  by_cases q : m < n
  · rw [if_pos q, show max m 1 = m by (first | exact ar251 a | (first | lia | omega))]
    obtain ⟨p', e', r1, r2⟩ := bin_ok W n (n - m) p m (by (first | exact ar196 b | (first | lia | omega))) (by (first | exact ar250 hp | (first | lia | omega))) d1 d2 d3
    exact ⟨p', e', r1.trans c, r2⟩
  · rw [if_neg q]
    have : m = n := by (first | exact ar44 b q | (first | lia | omega))
    subst this
    exact ⟨p, rfl, c, d1⟩
theorem Srt.pairwise {lt : Nat → Nat → Bool} {p : Array Nat} {n : Nat} (hz : p.size = n) (h : Srt lt p n) : p.toList.Pairwise (TT lt) := by
  rw [List.pairwise_iff_getElem]
  intro i j hi hj hij
  have := h i j hij (by simpa [hz] using hj)
  unfold at0 at this
  simpa [Array.getD_eq_getD_getElem?, show i < p.size by simpa using hi, show j < p.size by simpa using hj] using this
/-- two sorts under orders with the same TT have the same answer -/
theorem sort_same {lt lt' : Nat → Nat → Bool} (W : Weak lt) (W' : Weak lt') (n : Nat) (h1 : 1 ≤ n) (ht : ∀ a b, a < n → b < n → TT lt' a b → TT lt a b) : keval lt' (kas_sort n) = keval lt (kas_sort n) := by
  obtain ⟨p, e, a, b⟩ := sort_ok W n h1
  obtain ⟨p', e', a', b'⟩ := sort_ok W' n h1
  rw [e, e']
  have hp := a.toList
  have hp' := a'.toList
  have s := b.pairwise (by rw [a.size_eq]; simp)
  have s' := b'.pairwise (by rw [a'.size_eq]; simp)
  have hlt : ∀ x ∈ p'.toList, x < n := fun x hx => by have := hp'.subset hx; simpa using this
  have s2 : p'.toList.Pairwise (TT lt) := s'.imp_of_mem fun ha hb h => ht _ _ (hlt _ ha) (hlt _ hb) h
  refine Array.toList_inj.mp (List.Perm.eq_of_pairwise ?_ s2 s (hp'.trans hp.symm))
  intro x y _ _ h1 h2
  exact (TT.irr W (TT.trans W h1 h2)).elim
end Mq
set_option tactic.hygienic false
namespace Mq
open PySem PySem.W PyProof.Rows
/-- every question is about P, every answer is R -/
noncomputable def KAll {α : Type} (P : Nat → Nat → Prop) (R : α → Prop) : KasT α → Prop
  | .ret a => R a
  | .ask i j k => P i j ∧ ∀ b, KAll P R (k b)
theorem KAll.bind {α β : Type} {P : Nat → Nat → Prop} {R : α → Prop} {R' : β → Prop} {f : α → KasT β} (hf : ∀ a, R a → KAll P R' (f a)) : ∀ (t : KasT α), KAll P R t → KAll P R' (t.bind f)
  | .ret a, h => hf a h
  | .ask i j k, h => ⟨h.1, fun b => KAll.bind hf (k b) (h.2 b)⟩
/-- from a law on each question to the whole sort -/
theorem kall_wp {α : Type} {cmp : Nat → Nat → (Bool → Shared → Prop) → Shared → Prop} {P : Nat → Nat → Prop} {R : α → Prop} {lt : Nat → Nat → Bool} {I : Shared → Prop} {Q : α → Shared → Prop}
    (hc : ∀ i j s C, P i j → I s → (∀ s', I s' → C (lt i j) s') → cmp i j C s) : ∀ (t : KasT α) (s : Shared), KAll P R t → I s → (∀ s', I s' → Q (keval lt t) s') → t.kasWp cmp Q s
  | .ret a, s, _, hs, hq => hq s hs
  | .ask i j k, s, h, hs, hq => hc i j s _ h.1 hs fun s' hs' => kall_wp hc (k (lt i j)) s' (h.2 _) hs' hq
section
variable {n : Nat} (h0 : 0 < n)
noncomputable def Ok (n : Nat) (p : Array Nat) : Prop := ∀ v ∈ p, v < n
theorem Ok.perm {p q : Array Nat} (h : Ok n p) (hp : q.Perm p) : Ok n q := fun v hv => h v (hp.mem_iff.mp hv)
include h0
theorem Ok.at {p : Array Nat} (h : Ok n p) (x : Nat) : p.getD x 0 < n := by
  rw [Array.getD_eq_getD_getElem?]
  by_cases q : x < p.size
  · rw [Array.getElem?_eq_getElem q]; exact h _ (Array.getElem_mem q)
  · rw [Array.getElem?_eq_none (by (first | exact ar108 q | (first | lia | omega)))]; exact h0
noncomputable def Lt2 (n i j : Nat) : Prop := i < n ∧ j < n
theorem all_asc {p : Array Nat} (h : Ok n p) : ∀ f m, KAll (Lt2 n) (fun _ => True) (kas_asc p f m)
  | 0, m => trivial
  | f + 1, m => ⟨⟨h.at h0 _, h.at h0 _⟩, fun b => by
    show KAll _ _ (if b = true then KasT.ret m else kas_asc p f (m + 1))
    split
    · trivial
    · exact all_asc h f (m + 1)⟩
theorem all_desc : ∀ f (p : Array Nat) m q, Ok n p → KAll (Lt2 n) (fun r : Array Nat × Nat × Nat => Ok n r.1) (kas_desc f p m q)
  | 0, p, m, q, h => h
  | f + 1, p, m, q, h => ⟨⟨h.at h0 _, h.at h0 _⟩, fun b => by
    show KAll _ _ (if b = true then (if q > 0 then kas_desc f (kas_rev p (m - (q + 1)) m) (m + 1) 0 else kas_desc f p (m + 1) 0)
      else .ask (p.getD (m - 1) 0) (p.getD m 0) fun d => if d = true then .ret (p, m, q) else kas_desc f p (m + 1) (q + 1))
    split
    · split
      · exact all_desc f _ _ _ (h.perm (rev_perm _ _ _))
      · exact all_desc f _ _ _ h
    · refine ⟨⟨h.at h0 _, h.at h0 _⟩, fun d => ?_⟩
      show KAll _ _ (if d = true then KasT.ret (p, m, q) else kas_desc f p (m + 1) (q + 1))
      split
      · exact h
      · exact all_desc f _ _ _ h⟩
theorem all_tail3 {m k : Nat} {p : Array Nat} (h : Ok n p) : KAll (Lt2 n) (fun r : Nat × Array Nat => Ok n r.2) (kas_tail3 m k p) := by
  unfold kas_tail3
  refine KAll.bind (fun a _ => ?_) _ (all_asc h0 (h.perm (rev_perm _ _ _)) _ _)
  exact h.perm (rev_perm p 0 m)
theorem all_descPart {m k : Nat} {p : Array Nat} (h : Ok n p) : KAll (Lt2 n) (fun r : Nat × Array Nat => Ok n r.2) (kas_descPart m k p) := by
  unfold kas_descPart
  refine KAll.bind (fun r hr => ?_) _ (all_desc h0 _ _ _ _ h)
  split
  · exact all_tail3 h0 (hr.perm (rev_perm _ _ _))
  · exact all_tail3 h0 hr
theorem all_count {k : Nat} {p : Array Nat} (h : Ok n p) : KAll (Lt2 n) (fun r : Nat × Array Nat => Ok n r.2) (kas_count k p) := by
  unfold kas_count
  refine KAll.bind (fun r _ => ?_) _ (all_asc h0 h _ _)
  split
  · exact h
  · split
    · refine ⟨⟨h.at h0 _, h.at h0 _⟩, fun b => ?_⟩
      show KAll _ _ (if b = true then KasT.ret (r, p) else kas_descPart r k (kas_rev p 0 r))
      split
      · exact h
      · exact all_descPart h0 (h.perm (rev_perm _ _ _))
    · exact all_descPart h0 h
theorem all_place {p : Array Nat} (h : Ok n p) (k : Nat) : ∀ f l r, KAll (Lt2 n) (fun _ => True) (kas_place p k f l r)
  | 0, l, r => trivial
  | f + 1, l, r => by
    unfold kas_place
    split
    · trivial
    · refine ⟨⟨h.at h0 _, h.at h0 _⟩, fun b => ?_⟩
      show KAll _ _ (if b = true then kas_place p k f l ((l + r) / 2) else kas_place p k f ((l + r) / 2 + 1) r)
      split
      · exact all_place h k f _ _
      · exact all_place h k f _ _
theorem all_bin : ∀ f (p : Array Nat) k, Ok n p → KAll (Lt2 n) (Ok n) (kas_bin f p k)
  | 0, p, k, h => h
  | f + 1, p, k, h => by
    unfold kas_bin
    exact KAll.bind (fun l _ => all_bin f _ _ (h.perm (bubble_perm _ _ _))) _ (all_place h0 h k k 0 k)
theorem all_sort : KAll (Lt2 n) (Ok n) (kas_sort n) := by
  have hk : Ok n (List.range n).toArray := fun v hv => by simpa using hv
  unfold kas_sort
  refine KAll.bind (fun r hr => ?_) _ (all_count h0 hk)
  split
  · exact all_bin h0 _ _ _ hr
  · exact hr
end
end Mq
set_option tactic.hygienic false
namespace Mq
open PySem PySem.W PyProof.Rows
theorem tri_swap : ∀ l m, tri m l = - tri l m
  | [], [] => rfl
  | [], _ :: _ => by simp [tri]
  | _ :: _, [] => by simp [tri]
  | a :: l, b :: m => by
    unfold tri
    by_cases h : a = b
    · rw [if_pos h, if_pos h.symm]; exact tri_swap l m
    · rw [if_neg h, if_neg (fun e => h e.symm)]
      by_cases h' : a < b
      · rw [if_pos h', if_neg (by (first | exact ar252 h' | (first | lia | omega)))]; rfl
      · rw [if_neg h', if_pos (by (first | exact ar110 h h' | (first | lia | omega)))]
theorem tri_trans : ∀ l m p, tri l m ≤ 0 → tri m p ≤ 0 → tri l p ≤ 0
  | [], m, [] , _, _ => by simp [tri]
  | [], m, _ :: _ , _, _ => by simp [tri]
  | a :: l, [], p, h, _ => by simp [tri] at h
  | a :: l, b :: m, [], _, h => by simp [tri] at h
  | a :: l, b :: m, c :: p, h, h' => by
    unfold tri at h h' ⊢
    by_cases e1 : a = b
    · by_cases e2 : b = c
      · rw [if_pos e1] at h; rw [if_pos e2] at h'; rw [if_pos (e1.trans e2)]; exact tri_trans l m p h h'
      · rw [if_neg e2] at h'
        by_cases e3 : b < c
        · rw [if_neg (by (first | exact ar253 e1 e2 | (first | lia | omega))), if_pos (by (first | exact ar254 e1 e3 | (first | lia | omega)))]; decide
        · rw [if_neg e3] at h'; exact absurd h' (by decide)
    · rw [if_neg e1] at h
      by_cases e3 : a < b
      · by_cases e2 : b = c
        · rw [if_neg (by (first | exact ar255 e1 e2 | (first | lia | omega))), if_pos (by (first | exact ar256 e3 e2 | (first | lia | omega)))]; decide
        · rw [if_neg e2] at h'
          by_cases e4 : b < c
          · rw [if_neg (by (first | exact ar257 e3 e4 | (first | lia | omega))), if_pos (by (first | exact ar258 e3 e4 | (first | lia | omega)))]; decide
          · rw [if_neg e4] at h'; exact absurd h' (by decide)
      · rw [if_neg e3] at h; exact absurd h (by decide)
section
variable (r : Nat → List Int)
/-- order of the keys: the rests alone -/
noncomputable def ltK (i j : Nat) : Bool := decide (tri (r i) (r j) < 0)
/-- order of the pairs (rest, place) -/
noncomputable def ltP (i j : Nat) : Bool := decide (tri (r i) (r j) < 0 ∨ (tri (r i) (r j) = 0 ∧ i < j))
theorem ltK_false {i j : Nat} : ltK r i j = false ↔ tri (r j) (r i) ≤ 0 := by
  unfold ltK
  rw [tri_swap (r i) (r j)]
  simp only [decide_eq_false_iff_not]; (first | exact ar259 | (first | lia | omega))
theorem weakK : Weak (ltK r) := by
  refine ⟨fun a b h => ?_, fun a b c h h' => ?_⟩
  · rw [ltK_false]
    have : tri (r a) (r b) < 0 := by simpa [ltK] using h
    (first | exact ar260 this | (first | lia | omega))
  · rw [ltK_false] at h h' ⊢
    exact tri_trans _ _ _ h h'
theorem ltP_false {i j : Nat} : ltP r i j = false ↔ tri (r j) (r i) < 0 ∨ (tri (r j) (r i) = 0 ∧ j ≤ i) := by
  unfold ltP
  rw [tri_swap (r i) (r j)]
  simp only [decide_eq_false_iff_not]; (first | exact ar261 | (first | lia | omega))
theorem weakP : Weak (ltP r) := by
  refine ⟨fun a b h => ?_, fun a b c h h' => ?_⟩
  · rw [ltP_false]
    have : tri (r a) (r b) < 0 ∨ (tri (r a) (r b) = 0 ∧ a < b) := by simpa [ltP] using h
    (first | exact ar262 this | (first | lia | omega))
  · rw [ltP_false] at h h' ⊢
    have h1 := tri_trans (r a) (r b) (r c) (by (first | exact ar263 h | (first | lia | omega))) (by (first | exact ar263 h' | (first | lia | omega)))
    by_cases e : tri (r a) (r c) < 0
    · exact .inl e
    · have e0 : tri (r a) (r c) = 0 := by (first | exact ar264 h1 e | (first | lia | omega))
      refine .inr ⟨e0, ?_⟩
      have ec : r a = r c := (tri_eq _ _).mp e0
      rw [ec] at h
      have := tri_swap (r b) (r c)
      (first | exact ar265 h h' this | (first | lia | omega))
theorem tt_same {a b : Nat} (h : TT (ltP r) a b) : TT (ltK r) a b := by
  rcases h with h | ⟨h, h'⟩
  · have : tri (r a) (r b) < 0 ∨ (tri (r a) (r b) = 0 ∧ a < b) := by simpa [ltP] using h
    rcases this with h | ⟨h, h'⟩
    · exact .inl (by simpa [ltK] using h)
    · exact .inr ⟨by rw [ltK_false]; (first | exact ar266 h | (first | lia | omega)), h'⟩
  · rw [ltP_false] at h
    rcases h with h | ⟨h, _⟩
    · exact .inl (by simpa [ltK] using h)
    · exact .inr ⟨by rw [ltK_false]; (first | exact ar266 h | (first | lia | omega)), h'⟩
/-- both sorts give one order -/
theorem orders_same (n : Nat) (h1 : 1 ≤ n) : keval (ltP r) (kas_sort n) = keval (ltK r) (kas_sort n) :=
  sort_same (weakK r) (weakP r) n h1 fun a b _ _ h => tt_same r h
theorem order_perm (n : Nat) (h1 : 1 ≤ n) : (keval (ltK r) (kas_sort n)).Perm (List.range n).toArray := by
  obtain ⟨p, e, h, _⟩ := sort_ok (weakK r) n h1
  rw [e]; exact h
end
end Mq
set_option tactic.hygienic false
namespace Mq
open PySem PySem.W PyProof.Rows
/-- six answers of two keys -/
noncomputable def bK (l m : List Int) : CmpOp → Bool
  | .NotEq => !decide (cmpOf l m = 0)
  | .Eq => decide (cmpOf l m = 0)
  | op => opI op (cmpOf l m) 0
/-- six answers of two rests -/
noncomputable def bL (l m : List Int) : CmpOp → Bool
  | .NotEq => !decide (l = m)
  | .Eq => decide (l = m)
  | op => lexI op l m
theorem b_same {l m : List Int} (hl : ∀ x ∈ l, 0 < x) (hm : ∀ x ∈ m, 0 < x) (op : CmpOp) (ho : op ∈ [CmpOp.Lt, .LtE, .Eq, .NotEq, .GtE, .Gt]) : bK (l ++ [0]) (m ++ [0]) op = bL l m op := by
  obtain ⟨h1, h2, h3⟩ := cmp_sign (l := l ++ [0]) (m := m ++ [0]) (by simp) (by simp)
  have e : cmpOf (l ++ [0]) (m ++ [0]) = 0 ↔ l = m := by rw [h3, tri_zero hl hm, tri_eq]
  rw [tri_zero hl hm] at h1 h2 h3
  simp only [List.mem_cons, List.not_mem_nil, or_false] at ho
  rcases ho with rfl | rfl | rfl | rfl | rfl | rfl <;> unfold bK bL
  · simp only [opI, lex_lt]; exact decide_eq_decide.mpr h1
  · simp only [opI, lex_le]; exact decide_eq_decide.mpr (by (first | exact ar267 h2 | (first | lia | omega)))
  · exact decide_eq_decide.mpr e
  · exact congrArg not (decide_eq_decide.mpr e)
  · simp only [opI, lex_ge]; exact decide_eq_decide.mpr (by (first | exact ar268 h1 | (first | lia | omega)))
  · simp only [opI, lex_gt]; exact decide_eq_decide.mpr h2
theorem ans_same {l m : List Int} (hl : ∀ x ∈ l, 0 < x) (hm : ∀ x ∈ m, 0 < x) :
    ansText (bK (l ++ [0]) (m ++ [0]) .Lt) (bK (l ++ [0]) (m ++ [0]) .LtE) (bK (l ++ [0]) (m ++ [0]) .Eq) (bK (l ++ [0]) (m ++ [0]) .NotEq) (bK (l ++ [0]) (m ++ [0]) .GtE) (bK (l ++ [0]) (m ++ [0]) .Gt)
      = ansText (bL l m .Lt) (bL l m .LtE) (bL l m .Eq) (bL l m .NotEq) (bL l m .GtE) (bL l m .Gt) := by
  rw [b_same hl hm .Lt (by simp), b_same hl hm .LtE (by simp), b_same hl hm .Eq (by simp), b_same hl hm .NotEq (by simp), b_same hl hm .GtE (by simp), b_same hl hm .Gt (by simp)]
/-- the keys' order is the rests' -/
theorem ltK_key {l m : List Int} (hl : ∀ x ∈ l, 0 < x) (hm : ∀ x ∈ m, 0 < x) : bK (l ++ [0]) (m ++ [0]) .Lt = decide (tri l m < 0) := by
  rw [b_same hl hm .Lt (by simp)]; exact lex_lt l m
theorem row_nonneg (ns : List Int) : ∀ x ∈ rowOf ns, 0 ≤ x := fun x hx => by
  rcases (pinv ns 0 (by (first | exact ar100 | (first | lia | omega)))).elems x hx with h | h
  · (first | exact ar269 h | (first | lia | omega))
  · have := (V_lt h).1; (first | exact ar270 this | (first | lia | omega))
theorem takeWhile_all {α : Type} (f : α → Bool) : ∀ (l : List α) (x : α), x ∈ l.takeWhile f → x ∈ l ∧ f x = true
  | a :: l, x, h => by
    rw [List.takeWhile_cons] at h
    split at h
    · rcases List.mem_cons.mp h with rfl | h
      · exact ⟨List.mem_cons_self .., by assumption⟩
      · have := takeWhile_all f l x h
        exact ⟨List.mem_cons_of_mem _ this.1, this.2⟩
    · cases h
theorem rest_pos (ns : List Int) (b : Nat) : ∀ x ∈ restAt (rowOf ns) b, 0 < x := fun x hx => by
  obtain ⟨h1, h2⟩ := takeWhile_all _ _ _ hx
  have h3 := row_nonneg ns x (List.mem_of_mem_drop h1)
  have : x ≠ 0 := by simpa using h2
  (first | exact ar271 h3 this | (first | lia | omega))
/-- packing keeps every 0 -/
theorem packStep_cnt {r : Rule} (ha : r.a ≠ 0) (hb : r.b ≠ 0) (hn : r.new ≠ 0) (acc : List Int) (x : Int) : (packStep r acc x).count 0 = acc.count 0 + [x].count 0 := by
  unfold packStep
  split
  · rename_i h
    obtain ⟨h1, h2, rfl⟩ := h
    have e : acc = acc.dropLast ++ [r.a] := by
      rw [List.getLast?_eq_some_getLast h1] at h2
      have := List.dropLast_concat_getLast h1
      rw [Option.some.inj h2] at this
      exact this.symm
    have e1 : List.count 0 [r.new] = 0 := by simp [List.count_cons, hn]
    have e2 : List.count 0 [r.b] = 0 := by simp [List.count_cons, hb]
    have e3 : List.count 0 [r.a] = 0 := by simp [List.count_cons, ha]
    have e4 : acc.count 0 = acc.dropLast.count 0 + List.count 0 [r.a] := by
      conv => lhs; rw [e]
      rw [List.count_append]
    rw [List.count_append, e1, e2, e4, e3]
  · rw [List.count_append]
theorem packFold_cnt {r : Rule} (ha : r.a ≠ 0) (hb : r.b ≠ 0) (hn : r.new ≠ 0) : ∀ (row acc : List Int), (row.foldl (packStep r) acc).count 0 = acc.count 0 + row.count 0
  | [], acc => by simp
  | x :: row, acc => by
    rw [List.foldl_cons, packFold_cnt ha hb hn row, packStep_cnt ha hb hn, show x :: row = [x] ++ row from rfl, List.count_append]
    (first | exact ar272 | (first | lia | omega))
theorem zeros (ns : List Int) : ∀ k, k ≤ 4 → (rulesAt ns (rowOf ns) k).2.count 0 = (rowOf ns).count 0
  | 0, _ => rfl
  | k + 1, hk => by
    obtain ⟨ha, hb⟩ := (pinv ns k (by (first | exact ar75 hk | (first | lia | omega)))).rule (by (first | exact ar76 hk | (first | lia | omega)))
    have ha0 := (V_lt ha).1
    have hb0 := (V_lt hb).1
    rw [← zeros ns k (by (first | exact ar75 hk | (first | lia | omega)))]
    show (packOf (nextRule ns k (rulesAt ns (rowOf ns) k).2) (rulesAt ns (rowOf ns) k).2).count 0 = _
    unfold packOf
    rw [packFold_cnt (fun e => by rw [e] at ha0; (first | exact ar273 ha0 | (first | lia | omega))) (fun e => by rw [e] at hb0; (first | exact ar273 hb0 | (first | lia | omega))) (by show (256 : Int) + k ≠ 0; (first | exact ar274 | (first | lia | omega)))]
    simp
/-- at least two places -/
theorem places_two (ns : List Int) : 2 ≤ (rulesAt ns (rowOf ns) 4).2.length := by
  have h := zeros ns 4 (by (first | exact ar107 | (first | lia | omega)))
  have h1 : 2 ≤ (rowOf ns).count 0 := by
    unfold rowOf
    rw [List.map_append, List.count_append, List.count_append]
    have : (tailNs.map letter).count 0 = 2 := by decide
    (first | exact ar275 this | (first | lia | omega))
  have := List.count_le_length (a := (0 : Int)) (l := (rulesAt ns (rowOf ns) 4).2)
  (first | exact ar276 h h1 this | (first | lia | omega))
theorem places_64 (ns : List Int) (hn : ns.length ≤ 12) : (rulesAt ns (rowOf ns) 4).2.length < 64 := by
  have h := rulesAt_plen ns (rowOf ns) 4
  have : (rowOf ns).length = ns.length + 15 := by simp [rowOf, tailNs]
  (first | exact ar277 hn h this | (first | lia | omega))
end Mq
set_option tactic.hygienic false
namespace Mq
open PySem PySem.Spec PySem.Calls PyProof.Rows PySem.W
variable {prog : Program} {w : World}
/-- all but one place stand, and what that place holds -/
theorem but_update {h : Heap} {a : Addr} (f : Obj → Obj) : ∀ b x, b ≠ a → h.get? b = some x → (h.update a f).get? b = some x := fun b x hb e => (Heap.get?_update_other _ _ (Ne.symm hb)).trans e
theorem collect_listR {Z : Fz} {v : Value} {xs : List PV} {s : Shared} {A : Around} {E : Value → Shared → Prop} (h1 : Rep Z v (.list xs)) (hz : xs.length ≤ 100000) (hi : InH Z s.heap) : wpAny (model prog w) A (collect v) (PostL s Z xs) E s := by
  obtain ⟨l, vs, rfl, hl, r1⟩ := h1.isList hi
  have := r1.length
  refine collect_list hl ⟨Z, Ext.keeps (t := s.toks) hi fun b o e => ?_, r1⟩ (by rw [sizeLine_eq]; (first | exact ar63 hz this | (first | lia | omega)))
  exact but_update _ b o (Nat.ne_of_lt (Heap.lt_size e)) (Heap.get?_push_of_some _ e)
theorem collect_rangeR {Z : Fz} {v : Value} {n : Nat} {s : Shared} {A : Around} {E : Value → Shared → Prop} (hh : A.handled = none) (h1 : Rep Z v (.range n)) (hn : n ≤ 1000) (hi : InH Z s.heap) : wpAny (model prog w) A (collect v) (PostL s Z ((List.range n).map fun (i : Nat) => PV.int i)) E s := by
  cases h1 with
  | @range r _ t u v e =>
    have hr := hi.get e
    have hsz : Builtin.Range.rangeSize 0 (n : Int) 1 = (n : Int) := by rw [rangeSize_one]; (first | lia | omega)
    have hS : (s.heap.push { cls := .type "list", data := .seq ([] : List Value).toArray }).get? s.heap.objs.size = some { cls := .type "list", data := .seq ([] : List Value).toArray } := Heap.get?_push_size _ rfl
    have key : ∀ R : Result → Shared → Prop, (∀ h' tk acc' c', (∀ b o, s.heap.get? b = some o → h'.get? b = some o) → h'.get? s.heap.objs.size = some { cls := .type "list", dict := none, data := .seq acc' c', slots := #[] } →
        ItemsOf (fun i v => ∃ t, v = .int (0 + i * 1) t) acc' n → R (.ok (.ret (.ref s.heap.objs.size))) { s with heap := h', toks := tk }) → codeAny (model prog w) A (.builtin "proto.collect" ⟨[.ref r], []⟩) R s := fun R hR => by
      refine codeAny_builtin F.entry_proto_collect ?_
      rw [Around.under_plainId F.plain_proto_collect _]
      show wpAny _ A.in1 (newList [] >>= fun l => again (.builtin "list.__iadd__" ⟨[l, .ref r], []⟩)) _ _ s
      refine wpAny_bind (wpAny_newObj_type ?_)
      refine wpAny_pure ⟨plainId_quiet F.plain_list_iadd _, codeAny_builtin F.entry_list_iadd ?_⟩
      rw [Around.under_plainId F.plain_list_iadd _]
      show wpAny _ A.in1 (Builtin.List.listExtendWith (.ref s.heap.objs.size) (.ref r) (.ref s.heap.objs.size)) _ _ _
      refine wpAny_extend_range (R := R) hh (Heap.get?_push_of_some _ hr) (small_one (by (first | exact ar37 | (first | lia | omega))) (by (first | exact ar38 | (first | lia | omega))) (by (first | exact ar39 | (first | lia | omega))) (by (first | exact ar279 hn | (first | lia | omega)))) hsz (by (first | exact ar280 hn | (first | lia | omega))) _ _ 0 hS fun h' tk acc' c' hk hS' hacc => hR h' tk acc' c' (fun b o e' => hk b o (Nat.ne_of_lt (Heap.lt_size e')) (Heap.get?_push_of_some _ e')) hS' hacc
    unfold collect
    refine wpAny_bind (wpAny_runValue (key _ fun h' tk acc' c' hk hS' hacc => ?_))
    show wpAny (model prog w) A (load s.heap.objs.size >>= _) _ _ _
    refine wpAny_bind (wpAny_load hS' (wpAny_pure ⟨Z, Ext.keeps hi hk, ?_⟩))
    obtain ⟨h1, h2⟩ := hacc
    refine RepL.of_get (by simp [h1]) fun i v d hv hd => ?_
    obtain ⟨t, rfl⟩ := h2 i v (by simpa using hv)
    have hin : i < n := by
      have := (List.getElem?_eq_some_iff.mp hv).1
      rw [Array.length_toList, h1] at this; exact this
    rw [List.getElem?_map, List.getElem?_range hin] at hd
    cases hd
    have e3 : (0 : Int) + (i : Int) * 1 = (i : Int) := by (first | exact ar281 | (first | lia | omega))
    rw [e3]
    exact .int _ _
/-- the list under sorting -/
inductive SI (a : Addr) (e1 : Nat) (s : Shared) (Z : Fz) (s₁ : Shared) : Prop
  | mk (Z₁ : Fz) (_ : Mv [a] s Z s₁ Z₁) (_ : Z₁ a = none) (_ : s₁.heap.get? a = some (seqObj "list" #[] e1)) : SI a e1 s Z s₁
theorem sort_plain {a : Addr} {n : Nat} {vs : List Value} {κ : SortKind} {lt : Nat → Nat → Bool} {Z : Fz} {s : Shared} {A : Around} {E : Value → Shared → Prop} (hi : InH Z s.heap) (ho : s.heap.get? a = some (seqObj "list" vs.toArray n)) (hz : Z a = none) (h2 : 2 ≤ vs.length) (h64 : vs.length < 64)
    (hkind : ∀ s₁ Z₁, LeZ Z Z₁ → InH Z₁ s₁.heap → ∀ (Q : SortKind → Shared → Prop), Q κ s₁ → wpAny (model prog w) A (keyKind' vs.toArray) Q (fun _ _ => False) s₁)
    (hask : ∀ (s₁ : Shared) Z₁ i j (C : Bool → Shared → Prop), i < vs.length → j < vs.length → LeZ Z Z₁ → InH Z₁ s₁.heap → (∀ s₂ Z₂, Ext s₁ Z₁ s₂ Z₂ → C (lt i j) s₂) → kas_ask prog w A κ vs i j C s₁) :
    wpAny (model prog w) A (Builtin.«list.sort» ⟨[.ref a], []⟩) (fun fin s' => fin = .done (.ret .none) ∧ ∃ Z' n', Mv [a] s Z s' Z' ∧ Z' a = none ∧ s'.heap.get? a = some (seqObj "list" (List.toArray ((keval lt (kas_sort vs.length)).toList.map fun i => vs.getD i Value.none)) n')) E s := by
  obtain ⟨e1, ho1⟩ : ∃ e1, (s.heap.update a (Obj.mapSeq fun _ => (#[] : Array Value))).get? a = some (seqObj "list" #[] e1) := ⟨_, get?_update_seq ho fun _ => #[]⟩
  rw [list_sort_plain]
  refine wpAny_bind (listItems_at ho rfl ?_)
  refine wpAny_bind (listUpdate_at ho rfl ?_ (by rw [List.size_toArray, sizeLine_eq]; (first | exact ar282 h64 | (first | lia | omega))) (Nat.zero_le _))
  refine wpAny_bind (seqEpoch_at ho1 rfl ?_)
  refine wpAny_bind (wpAny_newTuple ?_ (by show vs.length ≤ _; rw [sizeLine_eq]; (first | exact ar282 h64 | (first | lia | omega))))
  refine wpAny_bind (wpAny_newList ?_ (Nat.zero_le _))
  refine wpAny_holding ?_
  dsimp only
  have hn2 : ¬ vs.toArray.size < 2 := by rw [List.size_toArray]; (first | exact ar283 h2 | (first | lia | omega))
  rw [if_neg hn2, if_neg hn2]
  have m1 : Mv [a] s Z { s with heap := s.heap.update a (Obj.mapSeq fun _ => (#[] : Array Value)), toks := s.toks } Z := Mv.same1 (but_update _) ⟨_, ho1⟩ hi hz (by simp)
  generalize hgen : (Heap.push (Heap.push (s.heap.update a (Obj.mapSeq fun _ => (#[] : Array Value))) _) _) = h3
  have k3 : ∀ b o, (s.heap.update a (Obj.mapSeq fun _ => (#[] : Array Value))).get? b = some o → h3.get? b = some o := fun b o e => by rw [← hgen]; exact Heap.get?_push_of_some _ (Heap.get?_push_of_some _ e)
  have m3 : Mv [a] s Z { s with heap := h3 } Z := m1.trans (Ext.mv (Ext.keeps (t := s.toks) m1.fin k3))
  refine wpAny_bind (wpAny_mono (hkind _ Z m3.le m3.fin (fun x s' => x = κ ∧ s' = { s with heap := h3 }) ⟨rfl, rfl⟩) ?_ fun _ _ x => x.elim)
  rintro κ' _ ⟨eκ, rfl⟩
  rw [eκ]
  have tree : (kas_sort vs.length).kasWp (kas_ask prog w A κ vs) (fun p s' => p = keval lt (kas_sort vs.length) ∧ SI a e1 s Z s') { s with heap := h3 } := by
    refine kall_wp (P := Lt2 vs.length) (R := Ok vs.length) (lt := lt) (I := SI a e1 s Z) (fun i j s₁ C hij hs hC => ?_) _ _ (all_sort (by (first | exact ar284 h2 | (first | lia | omega)))) ⟨Z, m3, hz, k3 _ _ ho1⟩ fun s' hs => ⟨rfl, hs⟩
    obtain ⟨Z₁, m, z, g⟩ := hs
    exact hask s₁ Z₁ i j C hij.1 hij.2 m.le m.fin fun s₂ Z₂ e => hC s₂ ⟨Z₂, m.trans (Ext.mv e), e.off g z, e.old.full g⟩
  refine wpAny_bind (wpAny_mono (kat_run (Q := fun st' s' => ∃ p : Array Nat, p.size = vs.length ∧ arrOf st' = p.map (kas_item (vs.toArray.zip vs.toArray)) ∧ failedOf st' = none ∧ p = keval lt (kas_sort vs.length) ∧ SI a e1 s Z s') rfl h2 h64 (fun p' st' s' a1 a2 a3 a4 => ⟨p', a1, a2, a3, a4⟩) tree) ?_ fun _ _ e => e)
  rintro ⟨⟨⟩, st'⟩ s' ⟨p, hp, har, hf, rfl, Z₁, m, z, g⟩
  dsimp only
  have hout := kat_snds rfl har
  have hsz : (List.toArray ((keval lt (kas_sort vs.length)).toList.map fun i => vs.getD i Value.none)).size = vs.length := by rw [List.size_toArray, List.length_map, Array.length_toList, hp]
  rw [hout]
  refine wpAny_bind (seqEpoch_at g rfl ?_)
  refine wpAny_bind (listUpdate_at g rfl ?_ (Nat.zero_le _) (Nat.le_trans (Nat.le_of_eq hsz) (by rw [sizeLine_eq]; (first | exact ar285 h64 | (first | lia | omega)))))
  rw [hf]
  simp only [bne_self_eq_false, Bool.false_eq_true, if_false]
  have g2 := get?_update_seq g fun _ => List.toArray ((keval lt (kas_sort vs.length)).toList.map fun i => vs.getD i Value.none)
  exact wpAny_pure ⟨rfl, Z₁, _, m.trans (Mv.same1 (tk := s'.toks) (but_update _) ⟨_, g2⟩ m.fin z (by simp)), z, g2⟩
end Mq
set_option tactic.hygienic false
namespace Mq
open PySem PySem.Spec PySem.Calls PyProof.Rows PySem.W
variable {prog : Program} {w : World}
/-- the list under sorting and its store of keys -/
inductive SK (a kS : Addr) (e1 : Nat) (s : Shared) (Z : Fz) (ds : List PV) (s₁ : Shared) : Prop
  | mk (Z₁ : Fz) (ks : List Value) (e : Nat) (_ : Mv [a] s Z s₁ Z₁) (_ : Z₁ a = none) (_ : s₁.heap.get? a = some (seqObj "list" #[] e1)) (_ : Z₁ kS = none) (_ : s₁.heap.get? kS = some (seqObj "list" (List.toArray ks) e)) (_ : RepL Z₁ ks ds) : SK a kS e1 s Z ds s₁
theorem sort_keyed {Z0 : Fz} {k : Nat} {a : Addr} {n : Nat} {f : Value} {vs : List Value} {xs ds : List PV} {κ : SortKind} {lt : Nat → Nat → Bool} {Z : Fz} {s : Shared} {A : Around} {E : Value → Shared → Prop} (r : Room A k) (hi : InH Z s.heap) (ho : s.heap.get? a = some (seqObj "list" vs.toArray n)) (hz : Z a = none) (hr : RepL Z vs xs) (hl : xs.length = ds.length)
    (h2 : 2 ≤ vs.length) (h64 : vs.length < 64)
    (hf : ∀ (i : Nat) x d, xs[i]? = some x → ds[i]? = some d → ∀ Z₁ v, LeZ Z Z₁ → Rep Z₁ v x → Op prog w Z0 k Z₁ (call f [v]) d)
    (hkind : ∀ (s₁ : Shared) Z₁ ks, LeZ Z Z₁ → InH Z₁ s₁.heap → RepL Z₁ ks ds → ∀ (Q : SortKind → Shared → Prop), Q κ s₁ → wpAny (model prog w) A (keyKind' (List.toArray ks)) Q (fun _ _ => False) s₁)
    (hask : ∀ (s₁ : Shared) Z₁ ks i j (C : Bool → Shared → Prop), i < vs.length → j < vs.length → LeZ Z Z₁ → InH Z₁ s₁.heap → RepL Z₁ ks ds → (∀ s₂ Z₂, Ext s₁ Z₁ s₂ Z₂ → C (lt i j) s₂) → kas_ask prog w A κ ks i j C s₁) :
    wpAny (model prog w) A (ksk_tree a f false) (fun fin s' => fin = .done (.ret .none) ∧ ∃ Z' n', Mv [a] s Z s' Z' ∧ Z' a = none ∧ s'.heap.get? a = some (seqObj "list" (List.toArray ((keval lt (kas_sort vs.length)).toList.map fun i => vs.getD i Value.none)) n')) E s := by
  have hvl := hr.length
  obtain ⟨e1, ho1⟩ : ∃ e1, (s.heap.update a (Obj.mapSeq fun _ => (#[] : Array Value))).get? a = some (seqObj "list" #[] e1) := ⟨_, get?_update_seq ho fun _ => #[]⟩
  have alt : a < s.heap.objs.size := Heap.lt_size ho
  unfold ksk_tree
  refine wpAny_bind (listItems_at ho rfl ?_)
  refine wpAny_bind (listUpdate_at ho rfl ?_ (by rw [List.size_toArray, sizeLine_eq]; (first | exact ar282 h64 | (first | lia | omega))) (Nat.zero_le _))
  refine wpAny_bind (seqEpoch_at ho1 rfl ?_)
  refine wpAny_bind (wpAny_newTuple ?_ (by show vs.length ≤ _; rw [sizeLine_eq]; (first | exact ar282 h64 | (first | lia | omega))))
  refine wpAny_bind (wpAny_newList ?_ (Nat.zero_le _))
  refine wpAny_holding ?_
  have m1 : Mv [a] s Z { s with heap := s.heap.update a (Obj.mapSeq fun _ => (#[] : Array Value)), toks := s.toks } Z := Mv.same1 (but_update _) ⟨_, ho1⟩ hi hz (by simp)
  dsimp only
  have hsz1 : (Heap.push (s.heap.update a (Obj.mapSeq fun _ => (#[] : Array Value))) (seqObj "tuple" vs.toArray 0)).objs.size = s.heap.objs.size + 1 := by rw [size_push', Heap.size_update]
  have hkS : (Heap.push (Heap.push (s.heap.update a (Obj.mapSeq fun _ => (#[] : Array Value))) (seqObj "tuple" vs.toArray 0)) (seqObj "list" #[] 0)).get? (s.heap.objs.size + 1) = some (seqObj "list" #[] 0) := by
    rw [← hsz1]; exact Heap.get?_push_size _ rfl
  have kS0 : s.heap.get? (s.heap.objs.size + 1) = none := Heap.get?_none_of_le (Nat.le_succ _)
  have kSa : s.heap.objs.size + 1 ≠ a := Nat.ne_of_gt (Nat.lt_succ_of_lt alt)
  show wpAny (model prog w) A (ksk_rest a f false vs.toArray e1 (.ref (Heap.push (s.heap.update a (Obj.mapSeq fun _ => (#[] : Array Value))) (seqObj "tuple" vs.toArray 0)).objs.size)) _ _ _
  rw [hsz1]
  have k3 : ∀ b o, (s.heap.update a (Obj.mapSeq fun _ => (#[] : Array Value))).get? b = some o → (Heap.push (Heap.push (s.heap.update a (Obj.mapSeq fun _ => (#[] : Array Value))) (seqObj "tuple" vs.toArray 0)) (seqObj "list" #[] 0)).get? b = some o := fun b o e => Heap.get?_push_of_some _ (Heap.get?_push_of_some _ e)
  generalize hkk : s.heap.objs.size + 1 = kS at *
  generalize hgen : (Heap.push (Heap.push (s.heap.update a (Obj.mapSeq fun _ => (#[] : Array Value))) _) _) = h3 at *
  have m3 : Mv [a] s Z { s with heap := h3 } Z := m1.trans (Ext.mv (Ext.keeps (t := s.toks) m1.fin k3))
  have zk : Z kS = none := hi.off kS0
  have start : SK a kS e1 s Z (ds.take 0) { s with heap := h3 } := ⟨Z, [], 0, m3, hz, k3 _ _ ho1, zk, hkS, by rw [List.take_zero]; exact .nil⟩
  unfold ksk_rest
  refine wpAny_bind (wpAny_rule ?_)
  rw [List.forIn_toArray]
  refine wpAny_bind (ksk_fold (fun i s' => SK a kS e1 s Z (ds.take i) s') vs 0 _ start (fun j x s' hx hI => ?_) (fun s' hI => ?_))
  · rw [Nat.zero_add] at hI ⊢
    obtain ⟨Z₁, ks, e, m, za, ga, zs, gs, rk⟩ := hI
    have hj : j < vs.length := (List.getElem?_eq_some_iff.mp hx).1
    obtain ⟨px, hpx, rx⟩ := hr.get hx
    obtain ⟨d, hd⟩ : ∃ d, ds[j]? = some d := ⟨_, List.getElem?_eq_getElem (by (first | exact ar286 hl hvl hj | (first | lia | omega)))⟩
    have hkl : ks.length = j := by rw [rk.length, List.length_take]; (first | exact ar287 hl hvl hj | (first | lia | omega))
    refine wpAny_bind (wpAny_attempt (wpAny_mono (hf j px d hpx hd Z₁ x m.le (rx.mono m.le) s' A (fun _ _ => False) r m.fin) (fun u s₂ q => ?_) fun _ _ x => x.elim))
    obtain ⟨Z₂, e₂, ru⟩ := q
    have gs2 := e₂.old.full gs
    have g3 := get?_update_seq gs2 (·.push u)
    dsimp only
    refine wpAny_bind (listUpdate_at gs2 rfl ?_ (by rw [List.size_toArray, sizeLine_eq]; (first | exact ar288 h64 hj hkl | (first | lia | omega))) (by rw [Array.size_push, List.size_toArray, sizeLine_eq]; (first | exact ar289 h64 hj hkl | (first | lia | omega))))
    have zs2 : Z₂ kS = none := e₂.off gs zs
    have m2 : Mv [a] s Z s₂ Z₂ := m.trans (Ext.mv e₂)
    have ea : (List.toArray ks).push u = List.toArray (ks ++ [u]) := by simp
    rw [ea] at g3
    refine wpAny_pure ⟨rfl, Z₂, ks ++ [u], _, m2.but (tk := s₂.toks) kS0 zs2 (but_update _), e₂.off ga za, but_update _ _ _ (Ne.symm kSa) (e₂.old.full ga), zs2, g3, ?_⟩
    rw [List.take_add_one, hd]
    exact (rk.mono e₂.le).append (.one ru)
  · rw [Nat.zero_add, hvl, hl, List.take_length] at hI
    obtain ⟨Z₁, ks, e, m, za, ga, zs, gs, rk⟩ := hI
    have hkl : ks.length = vs.length := by rw [rk.length, hvl, hl]
    refine wpAny_bind (listItems_at gs rfl ?_)
    have hn2 : ¬ vs.toArray.size < 2 := by rw [List.size_toArray]; (first | exact ar283 h2 | (first | lia | omega))
    unfold ksk_end
    simp only [Bool.false_eq_true, if_false]
    rw [if_neg hn2, if_neg hn2]
    refine wpAny_bind (wpAny_mono (hkind s' Z₁ ks m.le m.fin rk (fun x s2 => x = κ ∧ s2 = s') ⟨rfl, rfl⟩) ?_ fun _ _ x => x.elim)
    rintro κ' s9 ⟨eκ, es⟩
    rw [eκ, es]
    have tree : (kas_sort vs.length).kasWp (kas_ask prog w A κ ks) (fun p s'' => p = keval lt (kas_sort vs.length) ∧ ∃ Z₂, Ext s' Z₁ s'' Z₂) s' := by
      refine kall_wp (P := Lt2 vs.length) (R := Ok vs.length) (lt := lt) (I := fun s'' => ∃ Z₂, Ext s' Z₁ s'' Z₂) (fun i j s₁ C hij hs hC => ?_) _ _ (all_sort (by (first | exact ar284 h2 | (first | lia | omega)))) ⟨Z₁, .refl m.fin⟩ fun s'' hs => ⟨rfl, hs⟩
      obtain ⟨Z₂, e₂⟩ := hs
      exact hask s₁ Z₂ ks i j C hij.1 hij.2 (m.le.trans e₂.le) e₂.fin (rk.mono e₂.le) fun s₃ Z₃ e₃ => hC s₃ ⟨Z₃, e₂.trans e₃⟩
    refine wpAny_bind (wpAny_mono (kat_run (Q := fun st' s'' => ∃ p : Array Nat, p.size = vs.length ∧ arrOf st' = p.map (kas_item ((List.toArray ks).zip vs.toArray)) ∧ failedOf st' = none ∧ p = keval lt (kas_sort vs.length) ∧ ∃ Z₂, Ext s' Z₁ s'' Z₂) hkl h2 h64 (fun p' st' s' a1 a2 a3 a4 => ⟨p', a1, a2, a3, a4⟩) tree) ?_ fun _ _ e => e)
    rintro ⟨⟨⟩, st'⟩ s'' ⟨p, hp, har, hf', rfl, Z₂, e₂⟩
    have hout := kat_snds hkl har
    have hsz : (List.toArray ((keval lt (kas_sort vs.length)).toList.map fun i => vs.getD i Value.none)).size = vs.length := by rw [List.size_toArray, List.length_map, Array.length_toList, hp]
    dsimp only
    unfold ksk_tail
    dsimp only
    rw [hout]
    simp only [Bool.false_eq_true, if_false]
    have gs2 := e₂.old.full gs
    have ga2 := e₂.old.full ga
    have m2 : Mv [a] s Z s'' Z₂ := m.trans (Ext.mv e₂)
    have m3' : Mv [a] s Z { s'' with heap := s''.heap.update kS (Obj.mapSeq fun _ => (#[] : Array Value)), toks := s''.toks } Z₂ := m2.but kS0 (e₂.off gs zs) (but_update _)
    have ga3 := but_update (h := s''.heap) (a := kS) (Obj.mapSeq fun _ => (#[] : Array Value)) _ _ (Ne.symm kSa) ga2
    have za2 := e₂.off ga za
    refine wpAny_bind (listUpdate_at gs2 rfl ?_ (by rw [List.size_toArray, sizeLine_eq]; (first | exact ar290 h64 hkl | (first | lia | omega))) (Nat.zero_le _))
    refine wpAny_bind (wpAny_letGo ?_)
    refine wpAny_bind (seqEpoch_at ga3 rfl ?_)
    have g5 := get?_update_seq ga3 fun _ => List.toArray ((keval lt (kas_sort vs.length)).toList.map fun i => vs.getD i Value.none)
    refine wpAny_bind (listUpdate_at ga3 rfl ?_ (Nat.zero_le _) (Nat.le_trans (Nat.le_of_eq hsz) (by rw [sizeLine_eq]; (first | exact ar285 h64 | (first | lia | omega)))))
    rw [hf']
    simp only [bne_self_eq_false, Bool.false_eq_true, if_false]
    exact wpAny_pure ⟨rfl, Z₂, _, m3'.trans (Mv.same1 (tk := s''.toks) (but_update _) ⟨_, g5⟩ m3'.fin za2 (by simp)), za2, g5⟩
end Mq
set_option tactic.hygienic false
namespace Mq
open PySem PySem.Spec PySem.Calls PyProof.Rows PySem.W
variable {prog : Program} {w : World} {Z0 : Fz} {k : Nat}
theorem Ext.freeze {s s' : Shared} {Z Z' : Fz} {D : Addr} {o : Obj} (e : Ext s Z s' Z') (hz : Z' D = none) (h0 : s.heap.get? D = none) (ho : s'.heap.get? D = some o) (nt : ¬ Tb o) : Ext s Z s' (Z'.add D o) :=
  ⟨e.same, e.old, e.le.trans (Fz.le_add hz), e.fin.add ho nt, fun a x q q' => by
    rcases Fz.add_cases q with ⟨rfl, rfl⟩ | q
    · exact h0
    · exact e.fresh a x q q'⟩
theorem KAll.keval {α : Type} {P : Nat → Nat → Prop} {R : α → Prop} (lt : Nat → Nat → Bool) : ∀ (t : KasT α), KAll P R t → R (Mq.keval lt t)
  | .ret a, h => h
  | .ask i j k, h => KAll.keval lt (k (lt i j)) (h.2 _)
/-- the order's list of data -/
noncomputable def ordP (lt : Nat → Nat → Bool) (xs : List PV) : List PV := (keval lt (kas_sort xs.length)).toList.map fun i => xs.getD i .none
theorem ord_rep {Z : Fz} {vs : List Value} {xs : List PV} (hr : RepL Z vs xs) : ∀ (p : List Nat), (∀ i ∈ p, i < xs.length) → RepL Z (p.map fun i => vs.getD i Value.none) (p.map fun i => xs.getD i PV.none)
  | [], _ => .nil
  | i :: p, h => by
    have hi : i < xs.length := h i (.head _)
    have hv : i < vs.length := by rw [hr.length]; exact hi
    refine RepL.cons ?_ (ord_rep hr p fun j hj => h j (.tail _ hj))
    obtain ⟨d, hd, rd⟩ := hr.get (List.getElem?_eq_getElem hv)
    rw [List.getElem?_eq_getElem hi] at hd
    cases hd
    show Rep Z (vs.getD i Value.none) (xs.getD i PV.none)
    rw [List.getD_eq_getElem?_getD, List.getD_eq_getElem?_getD, List.getElem?_eq_getElem hv, List.getElem?_eq_getElem hi]
    exact rd
theorem ord_lt (lt : Nat → Nat → Bool) (n : Nat) (h : 0 < n) : ∀ i ∈ (keval lt (kas_sort n)).toList, i < n := fun i hi => (KAll.keval lt _ (all_sort h)) i (by simpa using hi)
/-- what collect gives -/
noncomputable def Col (prog : Program) (w : World) (k : Nat) (Z : Fz) (v : Value) (xs : List PV) : Prop := ∀ (s : Shared) (A : Around) (E : Value → Shared → Prop), Room A k → InH Z s.heap → wpAny (model prog w) A (collect v) (PostL s Z xs) E s
theorem op_sorted {Z : Fz} {v : Value} {xs : List PV} {κ : SortKind} {lt : Nat → Nat → Bool} (hc : Col prog w k Z v xs) (h2 : 2 ≤ xs.length) (h64 : xs.length < 64)
    (hkind : ∀ (A : Around) (s₁ : Shared) Z₁ vs, Room A k → LeZ Z Z₁ → InH Z₁ s₁.heap → RepL Z₁ vs xs → ∀ (Q : SortKind → Shared → Prop), Q κ s₁ → wpAny (model prog w) A (keyKind' (List.toArray vs)) Q (fun _ _ => False) s₁)
    (hask : ∀ (A : Around) (s₁ : Shared) Z₁ vs i j (C : Bool → Shared → Prop), Room A k → i < xs.length → j < xs.length → LeZ Z Z₁ → InH Z₁ s₁.heap → RepL Z₁ vs xs → (∀ s₂ Z₂, Ext s₁ Z₁ s₂ Z₂ → C (lt i j) s₂) → kas_ask prog w A κ vs i j C s₁) :
    Op prog w Z0 (k + 2) Z (call (.builtin "sorted") [v]) (.list (ordP lt xs)) := fun s A E r hi => by
  refine Calls.call_function_entry kind_sorted plain_sorted entry_sorted (args_sorted1 _) ?_
  unfold Builtin.«sorted»
  refine wpAny_bind (m := checkCount "sorted" 1 1 _) (wpAny_pure ?_)
  refine wpAny_bind (wpAny_mono (hc s A.in1 E (r.in1.le (by (first | exact ar22 | (first | lia | omega)))) hi) (fun vs s₁ q => ?_) fun _ _ x => x)
  obtain ⟨Z₁, e₁, rv⟩ := q
  have hvl := rv.length
  refine wpAny_bind (wpAny_newList ?_ (by rw [sizeLine_eq]; (first | exact ar290 h64 hvl | (first | lia | omega))))
  have hD : (s₁.heap.push (seqObj "list" vs.toArray 0)).get? s₁.heap.objs.size = some (seqObj "list" vs.toArray 0) := Heap.get?_push_size _ rfl
  have hD0 := get?_size s₁.heap
  have zD : Z₁ s₁.heap.objs.size = none := e₁.fin.off hD0
  have e₂ : Ext s₁ Z₁ { s₁ with heap := s₁.heap.push (seqObj "list" vs.toArray 0) } Z₁ := Ext.keeps (t := s₁.toks) e₁.fin fun _ _ e => Heap.get?_push_of_some _ e
  refine wpAny_bind (wpAny_holding (wpAny_call_entry slot_list_sort ⟨_, hD, rfl⟩ entry_list_sort ?body (args_list_sort _)))
  case body =>
    refine wpAny_mono (sort_plain (κ := κ) (lt := lt) e₂.fin hD zD (by (first | exact ar291 h2 hvl | (first | lia | omega))) (by (first | exact ar292 h64 hvl | (first | lia | omega))) (fun s₃ Z₃ hle h3 Q hq => hkind _ s₃ Z₃ vs r.in1.in1 (e₁.le.trans hle) h3 (rv.mono hle) Q hq) (fun s₃ Z₃ i j C h1 h2 hle h3 hC => hask _ s₃ Z₃ vs i j C r.in1.in1 (by (first | exact ar293 hvl h1 | (first | lia | omega))) (by (first | exact ar293 hvl h2 | (first | lia | omega))) (e₁.le.trans hle) h3 (rv.mono hle) hC)) (fun fin s' q => ?_) fun _ _ x => x
    obtain ⟨rfl, Z', n', m, z, g⟩ := q
    have e₃ : Ext s₁ Z₁ s' Z' := ((Ext.mv e₂).trans m).ext fun b hb => by simp at hb; subst hb; exact hD0
    have e5 : vs.length = xs.length := hvl
    rw [e5] at g
    have e₄ := e₃.freeze z hD0 g (Tb.ty rfl)
    refine ⟨_, rfl, wpAny_pure ⟨_, rfl, _, e₁.trans e₄, ?_⟩⟩
    exact .list (Fz.add_self ..) rfl rfl rfl (ord_rep (rv.mono e₄.le) _ (ord_lt lt _ (by (first | exact ar284 h2 | (first | lia | omega)))))
theorem op_sortedK {Z : Fz} {v : Value} {q : Addr} {xs ds : List PV} {κ : SortKind} {lt : Nat → Nat → Bool} (hc : Col prog w k Z v xs) (hl : xs.length = ds.length) (h2 : 2 ≤ xs.length) (h64 : xs.length < 64)
    (hf : ∀ (i : Nat) x d, xs[i]? = some x → ds[i]? = some d → ∀ Z₁ u, LeZ Z Z₁ → Rep Z₁ u x → Op prog w Z0 k Z₁ (call (.ref q) [u]) d)
    (hkind : ∀ (A : Around) (s₁ : Shared) Z₁ ks, Room A k → LeZ Z Z₁ → InH Z₁ s₁.heap → RepL Z₁ ks ds → ∀ (Q : SortKind → Shared → Prop), Q κ s₁ → wpAny (model prog w) A (keyKind' (List.toArray ks)) Q (fun _ _ => False) s₁)
    (hask : ∀ (A : Around) (s₁ : Shared) Z₁ ks i j (C : Bool → Shared → Prop), Room A k → i < xs.length → j < xs.length → LeZ Z Z₁ → InH Z₁ s₁.heap → RepL Z₁ ks ds → (∀ s₂ Z₂, Ext s₁ Z₁ s₂ Z₂ → C (lt i j) s₂) → kas_ask prog w A κ ks i j C s₁) :
    Op prog w Z0 (k + 2) Z (call (.builtin "sorted") [v] [(Str.ofString "key", .ref q)]) (.list (ordP lt xs)) := fun s A E r hi => by
  refine call_function_entry_kw kind_sorted plain_sorted entry_sorted (ksk_s1 _ _) ?_
  unfold Builtin.«sorted»
  refine wpAny_bind (m := checkCount "sorted" 1 1 _) (wpAny_pure ?_)
  refine wpAny_bind (wpAny_mono (hc s A.in1 E (r.in1.le (by (first | exact ar22 | (first | lia | omega)))) hi) (fun vs s₁ q => ?_) fun _ _ x => x)
  obtain ⟨Z₁, e₁, rv⟩ := q
  have hvl := rv.length
  refine wpAny_bind (wpAny_newList ?_ (by rw [sizeLine_eq]; (first | exact ar290 h64 hvl | (first | lia | omega))))
  have hD : (s₁.heap.push (seqObj "list" vs.toArray 0)).get? s₁.heap.objs.size = some (seqObj "list" vs.toArray 0) := Heap.get?_push_size _ rfl
  have hD0 := get?_size s₁.heap
  have zD : Z₁ s₁.heap.objs.size = none := e₁.fin.off hD0
  have e₂ : Ext s₁ Z₁ { s₁ with heap := s₁.heap.push (seqObj "list" vs.toArray 0) } Z₁ := Ext.keeps (t := s₁.toks) e₁.fin fun _ _ e => Heap.get?_push_of_some _ e
  refine wpAny_bind (wpAny_holding (wpAny_call_entry_kw slot_list_sort ⟨_, hD, rfl⟩ entry_list_sort ?body (ksk_l1 _ _)))
  case body =>
    have ht := ksk_t1 q s₁.heap.objs.size
    show wpAny (model prog w) A.in1.in1 (Builtin.«list.sort» ⟨[.ref s₁.heap.objs.size], [(Str.ofString "key", .ref q)]⟩) _ _ _
    rw [ht]
    refine wpAny_mono (sort_keyed (Z0 := Z0) (k := k) (κ := κ) (lt := lt) (r.in1.in1) e₂.fin hD zD rv hl (by (first | exact ar291 h2 hvl | (first | lia | omega))) (by (first | exact ar292 h64 hvl | (first | lia | omega))) (fun i x d hx hd Z₃ u hle ru => hf i x d hx hd Z₃ u (e₁.le.trans hle) ru) (fun s₃ Z₃ ks hle h3 rk Q hq => hkind _ s₃ Z₃ ks r.in1.in1 (e₁.le.trans hle) h3 rk Q hq)
      (fun s₃ Z₃ ks i j C h1 h2 hle h3 rk hC => hask _ s₃ Z₃ ks i j C r.in1.in1 (by (first | exact ar293 hvl h1 | (first | lia | omega))) (by (first | exact ar293 hvl h2 | (first | lia | omega))) (e₁.le.trans hle) h3 rk hC)) (fun fin s' q => ?_) fun _ _ x => x
    obtain ⟨rfl, Z', n', m, z, g⟩ := q
    have e₃ : Ext s₁ Z₁ s' Z' := ((Ext.mv e₂).trans m).ext fun b hb => by simp at hb; subst hb; exact hD0
    have e5 : vs.length = xs.length := hvl
    rw [e5] at g
    have e₄ := e₃.freeze z hD0 g (Tb.ty rfl)
    refine ⟨_, rfl, wpAny_pure ⟨_, rfl, _, e₁.trans e₄, ?_⟩⟩
    exact .list (Fz.add_self ..) rfl rfl rfl (ord_rep (rv.mono e₄.le) _ (ord_lt lt _ (by (first | exact ar284 h2 | (first | lia | omega)))))
end Mq
set_option tactic.hygienic false
namespace Mq
open PySem PySem.Spec PySem.Calls PyProof.Rows PySem.W PySem.W.X
section
variable {prog : Program} {w : World}
local macro_rules | `(tactic| x_close) => `(tactic| exact ⟨_, _, rfl, fun _ _ e => e, rfl⟩)
/-- reading the slot obj -/
theorem get_hooked {s : Shared} {C ns md x dx B SL ST f0 f1 f2 f3 f4 f5 : Addr} {n : Int} {t u : Tok} {t3 tq tm tl tb : Tok} {i0 i2 i3 i4 i5 i6 i7 i8 i9 i10 i11 i12 i13 : Int} {k0 k2 k3 k4 k5 k6 k7 k8 k9 k10 k11 k12 k13 : Tok}
  (hC : s.heap.get? C = some ⟨Value.type "type", none, Data.cls { name := "K", bases := [.type "object"], mro := [.ref C, .type "object"], ns := ns, qualname := "cmp_to_key.<locals>.K", hasDict := false, slotNames := ["obj"] }, #[some (.ref B), none, some (.str "K" t3), some (.str "cmp_to_key.<locals>.K" tq), some (.builtin "object.__new__"), some (.bool false)]⟩)
  (hns : s.heap.get? ns = some ⟨.type "dict", none, .dict #[⟨i0, .str "__module__" k0, .str "cpy313.functools" tm⟩, ⟨i2, .str "__firstlineno__" k2, .int 4 tl⟩, ⟨i3, .str "__slots__" k3, .ref SL⟩, ⟨i4, .str "__init__" k4, .ref f0⟩, ⟨i5, .str "__lt__" k5, .ref f1⟩, ⟨i6, .str "__gt__" k6, .ref f2⟩, ⟨i7, .str "__eq__" k7, .ref f3⟩, ⟨i8, .str "__le__" k8, .ref f4⟩, ⟨i9, .str "__ge__" k9, .ref f5⟩, ⟨i10, .str "__hash__" k10, .none⟩, ⟨i11, .str "__static_attributes__" k11, .ref ST⟩, ⟨i12, .str "obj" k12, .ref md⟩, ⟨i13, .str "__doc__" k13, .none⟩] 3, #[]⟩)
  (hmd : s.heap.get? md = some { cls := Value.type "member_descriptor", data := Data.fields #[Value.str (Str.ofString "obj") tb, Value.ref C, Value.builtin "proto.slot", Value.builtin "proto.slot#set", .int 0 0] })
  (hx : s.heap.get? x = some { cls := .ref C, dict := some dx, data := .plain, slots := #[some (.int n t)] }) (hd : s.heap.get? dx = some { cls := .type "dict", data := .dict #[] }) :
    wpAny (model prog w) A0 (runValue (.builtin "proto.getattr_hooked" ⟨[.ref x, .str "obj" u], []⟩)) (XP s fun v h' => v = .int n t) (fun _ _ => False) s := by
  x_run
end
/-- an object of the class -/
noncomputable def kObj (C dx : Addr) (v : Value) : Obj := { cls := .ref C, dict := some dx, data := .plain, slots := #[some v] }
inductive KInst (C : Addr) (n : Int) (Z : Fz) (v : Value) : Prop
  | mk (x dx : Addr) (t : Tok) (_ : v = .ref x) (_ : Z x = some (kObj C dx (.int n t))) (_ : Z dx = some emptyDict) : KInst C n Z v
theorem kObj_nt {C dx : Addr} {v : Value} : ¬ Tb (kObj C dx v) := fun h => nomatch h.1
/-- the class, in short -/
structure KInfo (w : World) (Z : Fz) (C : Addr) (v : Value) (N md f0 f1 f2 f3 f4 f5 cm : Addr) (on : Obj) (es : Array DictEntry) : Prop where
  cls : ∃ q sub col k0 k1 k2 k3 k5, Z C = some (excClassObj "K" q C N [.type "object"] [.type "object"] false [Str.ofString "obj"] sub false col none k0 k1 k2 k3 k5 "object.__new__")
  dic : Z N = some on
  dat : ∃ ep, on.data = .dict es ep
  str : StrKeys es
  n0 : nsLook "__init__" on = pure (some (.ref f0))
  n1 : nsFind es "__lt__" = some (.ref f1)
  n2 : nsFind es "__gt__" = some (.ref f2)
  n3 : nsFind es "__eq__" = some (.ref f3)
  n4 : nsFind es "__le__" = some (.ref f4)
  n5 : nsFind es "__ge__" = some (.ref f5)
  n6 : nsFind es "__ne__" = none
  n7 : nsLook "obj" on = pure (some (.ref md))
  n8 : nsLook "__setattr__" on = pure none
  n9 : nsLook "__getattribute__" on = pure none
  mdo : ∃ tb, Z md = some { cls := .type "member_descriptor", data := .fields #[.str (Str.ofString "obj") tb, .ref C, .builtin "proto.slot", .builtin "proto.slot#set", .int 0 0] }
  F0 : ∃ c, iniC w Z f0 c
  F1 : ∃ c, mthC w Z cm f1 c "__lt__" 3
  F2 : ∃ c, mthC w Z cm f2 c "__gt__" 4
  F3 : ∃ c, mthC w Z cm f3 c "__eq__" 5
  F4 : ∃ c, mthC w Z cm f4 c "__le__" 6
  F5 : ∃ c, mthC w Z cm f5 c "__ge__" 7
  cmo : ∃ oc, Z cm = some oc ∧ oc.data = .cell (some v)
  get : ∀ {prog : Program} {w : World} {s : Shared} {x dx : Addr} {n : Int} {t u : Tok}, InH Z s.heap → s.heap.get? x = some (kObj C dx (.int n t)) → s.heap.get? dx = some emptyDict → wpAny (model prog w) A0 (runValue (.builtin "proto.getattr_hooked" ⟨[.ref x, .str "obj" u], []⟩)) (XP s fun v h' => v = .int n t) (fun _ _ => False) s
theorem strKeys_list : ∀ (l : List DictEntry), (∀ e ∈ l, ∃ n t, e.key = .str n t) → StrKeys (List.toArray l) := fun l h e he => h e (by simpa using he)
theorem KCls.info {w : World} {Z : Fz} {C : Addr} {v : Value} (h : KCls w Z C v) : ∃ N md f0 f1 f2 f3 f4 f5 cm on es, KInfo w Z C v N md f0 f1 f2 f3 f4 f5 cm on es := by
  obtain ⟨ns, md, Bk, SL, ST, f0, f1, f2, f3, f4, f5, c0, c1, c2, c3, c4, c5, cm, oc, t3, tq, tm, tl, tb, i0, i2, i3, i4, i5, i6, i7, i8, i9, i10, i11, i12, i13, k0, k2, k3, k4, k5, k6, k7, k8, k9, k10, k11, k12, k13, hC, hns, hmd, h0, h1, h2, h3, h4, h5, hcm, hcd⟩ := h
  refine ⟨ns, md, f0, f1, f2, f3, f4, f5, cm, _, _, ⟨_, _, _, _, _, _, _, _, hC⟩, hns, ⟨_, rfl⟩, ?_, by kernel_rfl!, by kernel_rfl!, by kernel_rfl!, by kernel_rfl!, by kernel_rfl!, by kernel_rfl!, by kernel_rfl!, by kernel_rfl!, by kernel_rfl!, by kernel_rfl!, ⟨_, hmd⟩, ⟨_, h0⟩, ⟨_, h1⟩, ⟨_, h2⟩, ⟨_, h3⟩, ⟨_, h4⟩, ⟨_, h5⟩, ⟨_, hcm, hcd⟩, fun hi hx hd => get_hooked (hi.get hC) (hi.get hns) (hi.get hmd) hx hd⟩
  refine strKeys_list _ fun e he => ?_
  simp only [List.mem_cons, List.not_mem_nil, or_false] at he
  rcases he with rfl | rfl | rfl | rfl | rfl | rfl | rfl | rfl | rfl | rfl | rfl | rfl | rfl <;> exact ⟨_, _, rfl⟩
end Mq
set_option tactic.hygienic false
namespace Mq
open PySem PySem.Spec PySem.Calls PyProof.Rows PySem.W
variable {w : World} {Z0 : Fz} {mg mb : Str → Option Value}
theorem ini_body (w : World) : ∃ p1 p2 p3 p4, (clsDef w 2).2.1 = [.Assign [.Attribute (.Name "self" p1) "obj" p2] (.Name "obj" p3) p4] := ⟨_, _, _, _, rfl⟩
theorem ini_names (w : World) : (clsDef w 2).2.2.names = [(("self" : Str), NameKind.local), (("obj" : Str), NameKind.local)] := by rfl
theorem ini_k (w : World) : (clsDef w 2).2.2.kind = .function := rfl
theorem ini_c (w : World) : (clsDef w 2).2.2.isCoroutine = false := rfl
theorem ini_g (w : World) : (clsDef w 2).2.2.isGenerator = false := rfl
theorem ini_bind (w : World) (pm cc a b : Value) : bindArgs (fd0 (Str.ofString "__init__") (kq "__init__") (clsDef w 2).1 (clsDef w 2).2.1 (clsDef w 2).2.2 pm cc) ⟨[a, b], []⟩ = pure [(("self" : Str), a), (("obj" : Str), b)] := by kernel_rfl
theorem op_key (B : Base Z0 mg mb) {Z : Fz} {C : Addr} {v0 u : Value} {n : Int} {N md f0 f1 f2 f3 f4 f5 cm : Addr} {on : Obj} {es : Array DictEntry} (hle : LeZ Z0 Z) (KI : KInfo w Z C v0 N md f0 f1 f2 f3 f4 f5 cm on es) (hu : Rep Z u (.int n)) : Op prg w Z0 5 Z (call (.ref C) [u]) (.abs (KInst C n)) := fun s A E r hi => by
  obtain ⟨t, rfl⟩ := hu.isInt
  obtain ⟨q, sub, col, y0, y1, y2, y3, y5, hC⟩ := KI.cls
  obtain ⟨tb, hmd⟩ := KI.mdo
  obtain ⟨c0, h0⟩ := KI.F0
  have hns := KI.dic
  obtain ⟨pm, co, vs, tq0, hf, hco, hcoc, hcod, hcoq⟩ := h0
  have hi0 : InH Z0 s.heap := hi.of_le hle
  refine wpAny_call (call_cls (on := on) (hi.get hC) rfl rfl rfl rfl (hi.get hns) KI.n0 (hi.get hf) rfl ?_)
  have fr : ∀ a, s.heap.objs.size ≤ a → s.heap.get? a = none := fun a ha => Heap.get?_none_of_le ha
  have kp : ∀ b o, s.heap.get? b = some o → ((s.heap.push emptyDict).push (instObj C s.heap.objs.size)).get? b = some o := fun b o e => Heap.get?_push_of_some _ (Heap.get?_push_of_some _ e)
  have hdx : ((s.heap.push emptyDict).push (instObj C s.heap.objs.size)).get? s.heap.objs.size = some emptyDict := Heap.get?_push_of_some _ (Heap.get?_push_size _ rfl)
  have hx : ((s.heap.push emptyDict).push (instObj C s.heap.objs.size)).get? (s.heap.objs.size + 1) = some (instObj C s.heap.objs.size) := by
    have := Heap.get?_push_size (s.heap.push emptyDict) (o := instObj C s.heap.objs.size) rfl
    rwa [Heap.size_push] at this
  generalize hhh : (s.heap.push emptyDict).push (instObj C s.heap.objs.size) = hh at kp hdx hx ⊢
  have frx := fr (s.heap.objs.size + 1) (Nat.le_succ _)
  have frd := fr s.heap.objs.size (Nat.le_refl _)
  have nexd : s.heap.objs.size + 1 ≠ s.heap.objs.size := Nat.succ_ne_self _
  generalize s.heap.objs.size = dx at *
  generalize dx + 1 = x at *
  have hi1 : InH Z hh := hi.keeps (Old.of kp).kp
  have hdp : (A.under (.builtin "type.__call__" ⟨.ref C :: [Value.int n t], []⟩)).depth = A.depth + 1 := rfl
  generalize A.under (.builtin "type.__call__" ⟨.ref C :: [Value.int n t], []⟩) = A' at hdp ⊢
  obtain ⟨p1, p2, p3, p4, hbd⟩ := ini_body w
  refine codeAny_call_def (s := { s with heap := hh }) (A := A') (binds := [("self", .ref x), ("obj", .int n t)]) (by have := r.depth; (first | exact ar278 hdp this | (first | lia | omega))) (hi1.get hf) rfl (B.lim _ (hi1.of_le hle)) ⟨_, _, _, _, rfl, hi1.get hco, hcod, hcoq⟩ rfl (BindsTo.of_eq (ini_bind w _ _ _ _)) (fun y hy => ?_) (fun y hy => ?_) (fun h₀ hn₀ k₀ => ?_) (ini_c w) (ini_g w) (ini_k w)
  · have hy' : y ∈ (clsDef w 2).2.2.names := hy
    rw [ini_names] at hy'
    simp only [List.mem_cons, List.not_mem_nil, or_false] at hy'
    rcases hy' with rfl | rfl <;> decide
  · show (clsDef w 2).2.2.names.lookup y.1 = _
    rw [ini_names]
    simp only [List.mem_cons, List.not_mem_nil, or_false] at hy
    rcases hy with rfl | rfl <;> rfl
  show wpAny (model prg w) _ (execs (clsDef w 2).2.1 _) _ _ _
  rw [hbd]
  have hlk : ∀ y, (clsDef w 2).2.2.names.lookup y = ([(("self" : Str), NameKind.local), (("obj" : Str), NameKind.local)] : List (Str × NameKind)).lookup y := fun y => by rw [ini_names]
  refine wpAny_execs_cons (plainObj_wpAny_Assign_Attribute ?_)
  refine wpAny_Name (wpAny_loadName_local (v := .int n t) (ini_k w) (hlk _) hn₀ rfl ?_)
  refine wpAny_Name (wpAny_loadName_local (v := .ref x) (ini_k w) (hlk _) hn₀ rfl ?_)
  have hxx := k₀ _ _ hx
  have kk : ∀ b o, s.heap.get? b = some o → h₀.get? b = some o := fun b o e => k₀ _ _ (kp _ _ e)
  have hi2 : InH Z h₀ := hi.keeps (Old.of kk).kp
  refine set_obj (s := { s with heap := h₀, toks := s.toks + 2 }) (hi2.get hC) rfl rfl (hi2.get hns) KI.n7 KI.n8 (hi2.get hmd) hxx (wpAny_execs_nil ⟨rfl, ?_⟩)
  have gx := Heap.get?_update_self (fun o => { o with slots := (o.slots ++ Array.replicate (0 + 1 - o.slots.size) none).setIfInBounds 0 (some (Value.int n t)) }) hxx rfl
  have gd := but_update (fun o : Obj => { o with slots := (o.slots ++ Array.replicate (0 + 1 - o.slots.size) none).setIfInBounds 0 (some (Value.int n t)) }) _ _ (Ne.symm nexd) (k₀ _ _ hdx)
  have e1 : Ext s Z { s with heap := h₀.update x (fun o => { o with slots := (o.slots ++ Array.replicate (0 + 1 - o.slots.size) none).setIfInBounds 0 (some (Value.int n t)) }), toks := s.toks + 2 + 1 } Z := Ext.keeps hi fun b o e => but_update _ _ _ (fun q => by rw [q, frx] at e; cases e) (kk _ _ e)
  have e2 := e1.freeze (hi.off frd) frd gd (Tb.ty rfl)
  have zx : (Z.add dx emptyDict) x = none := by simp [Fz.add, nexd, hi.off frx]
  have e3 := e2.freeze zx frx (o := kObj C dx (.int n t)) gx kObj_nt
  exact ⟨_, e3, .abs ⟨x, dx, t, rfl, Fz.add_self .., Fz.le_add zx _ _ (Fz.add_self ..)⟩ (.refl _)⟩
end Mq
set_option tactic.hygienic true
namespace Mq
open PySem PySem.Spec PySem.Calls PyProof.Rows PySem.W
variable {prog : Program} {w : World} {Z0 : Fz} {k : Nat} {Z : Fz}
theorem Col.list {v : Value} {xs : List PV} (h : Rep Z v (.list xs)) (hz : xs.length ≤ 100000) : Col prog w k Z v xs := fun s A E r hi => collect_listR h hz hi
theorem Col.range {v : Value} {n : Nat} (h : Rep Z v (.range n)) (hn : n ≤ 1000) : Col prog w k Z v ((List.range n).map fun (i : Nat) => PV.int i) := fun s A E r hi => collect_rangeR r.handled h hn hi
theorem eqBool_ints {ns ms : List Int} {v u : Value} {s : Shared} {A : Around} {E : Value → Shared → Prop} {Q : Bool → Shared → Prop} (hi : InH Z s.heap) (h1 : Rep Z v (.list (pInts ns))) (h2 : Rep Z u (.list (pInts ms))) (hu : A.units + 64 < cLine) (h : Q (decide (ns = ms)) s) : wpAny (model prog w) A (eqBool v u) Q E s := by
  obtain ⟨l, vs, rfl, hl, r1⟩ := h1.isList hi
  obtain ⟨l', vs', rfl, hl', r2⟩ := h2.isList hi
  refine SeqAt.eqBoolOverData prog w A E s _ _ (.list (ns.map PyData.int)) (.list (ms.map PyData.int)) _ _ Q (reads_newData hl (ke_carried r1.toInts)) (reads_newData hl' (ke_carried r2.toInts)) (by simp [PyData.canLay0, ke_canLayAll0]) (by simp [PyData.canLay0, ke_canLayAll0]) ?_ ?_
  · simp only [PyData.depth, ke_depthAll]; (first | exact ar353 hu | (first | lia | omega))
  · rw [← SeqAt.same_eq_eqv _ _ (SeqAt.noMix_of_shape (.list .int) rfl _ _ (list_map_has fun _ => rfl) (list_map_has fun _ => rfl)), ke_same]
    exact h
theorem oneLt_ints {ns ms : List Int} {v u : Value} {s : Shared} {A : Around} {E : Value → Shared → Prop} {Q : Bool → Shared → Prop} (hi : InH Z s.heap) (h1 : Rep Z v (.list (pInts ns))) (h2 : Rep Z u (.list (pInts ms))) (hu : A.units + 64 < cLine) (h : Q (lexI .Lt ns ms) s) : wpAny (model prog w) A (oneLt' true v u) Q E s := by
  obtain ⟨l, vs, rfl, hl, r1⟩ := h1.isList hi
  obtain ⟨l', us, rfl, hl', r2⟩ := h2.isList hi
  obtain ⟨⟨cls, dd, data, sl⟩, ho1, hc, n, hd⟩ := id hl
  obtain ⟨⟨cls2, dd2, data2, sl2⟩, ho2, hc2, n2, hd2⟩ := id hl'
  simp only at hc hd hc2 hd2
  subst hc hd hc2 hd2
  rw [oneLt'_eq]
  simp only [if_true]
  refine wpAny_bind (wpAny_cRoomFor (by (first | exact ar354 hu | (first | lia | omega))) ?_)
  refine wpAny_bind (wpAny_callSpecialIfBound?_slot ⟨_, ho1, rfl⟩ PySem.F.slot_list_lt (call_meets PySem.F.slot_list_lt ⟨_, ho1, rfl⟩ PySem.F.entry_list_lt (PySem.F.args_list_lt_2 _ _) (list_ltAt l l' vs us n n2 dd dd2 sl sl2 r1.toInts r2.toInts) ⟨ho1, ho2, ?_⟩))
  exact wpAny_truthy_bool h
/-- the pairs (rest, place) -/
noncomputable def pairPV (r : Nat → List Int) (j : Nat) : PV := .tup [.list (pInts (r j)), .int (j : Int)]
noncomputable def pairsPV (r : Nat → List Int) (n : Nat) : List PV := (List.range n).map (pairPV r)
theorem pairsPV_get {r : Nat → List Int} {n j : Nat} (h : j < n) : (pairsPV r n)[j]? = some (pairPV r j) := by
  unfold pairsPV
  rw [List.getElem?_map, List.getElem?_range h]; rfl
theorem pair_open {r : Nat → List Int} {n j : Nat} {vs : List Value} (rv : RepL Z vs (pairsPV r n)) (h : j < n) :
    ∃ a o m x1 t, vs.getD j Value.none = .ref a ∧ Z a = some o ∧ o.cls = .type "tuple" ∧ o.data = .seq #[x1, .int j t] m ∧ Rep Z x1 (.list (pInts (r j))) := by
  obtain ⟨v, hv, rp⟩ := rv.get' (pairsPV_get (r := r) h)
  have e : vs.getD j Value.none = v := by rw [List.getD_eq_getElem?_getD, hv]; rfl
  rw [e]
  unfold pairPV at rp
  cases rp with
  | @tup a o m us _ hz hc hd rr =>
    obtain ⟨_, _, rfl, x1, x2⟩ := rr.two_inv
    obtain ⟨t, rfl⟩ := x2.isInt
    exact ⟨a, o, m, _, t, rfl, hz, hc, hd, x1⟩
theorem ask_pair {r : Nat → List Int} {n i j : Nat} {vs : List Value} {s : Shared} {A : Around} {C : Bool → Shared → Prop} (hi : InH Z s.heap) (hu : A.units + 64 < cLine) (rv : RepL Z vs (pairsPV r n)) (h1 : i < n) (h2 : j < n) (h : C (ltP r i j) s) : kas_ask prog w A (tuples' true) vs i j C s := by
  obtain ⟨a, o, m, x1, t, e1, z1, c1, d1, r1⟩ := pair_open rv h1
  obtain ⟨a', o', m', x1', t', e1', z1', c1', d1', r1'⟩ := pair_open rv h2
  unfold kas_ask
  rw [e1, e1']
  refine kat_lt (hi.get z1) d1 (hi.get z1') d1' ?_
  refine kat_cons (eqBool_ints hi r1 r1' hu ?_)
  by_cases q : r i = r j
  · rw [decide_eq_true q]
    have ht := (tri_eq (r i) (r j)).mpr q
    refine kat_yes (kat_cons (wpAny_eqBool_int ?_))
    by_cases q' : i = j
    · subst q'
      rw [beq_self_eq_true]
      refine kat_yes (kat_nil ?_)
      have : ltP r i i = false := by unfold ltP; rw [ht]; simp
      rw [this] at h
      exact h
    · have : ((i : Int) == (j : Int)) = false := by rw [beq_eq_false_iff_ne]; (first | exact ar355 q' | (first | lia | omega))
      rw [this]
      refine kat_no (kat_one _ _ (PyProof.Rows.lt_int ?_))
      have : ltP r i j = decide ((i : Int) < (j : Int)) := by unfold ltP; rw [ht]; simp
      rw [this] at h
      exact h
  · rw [decide_eq_false q]
    have ht : tri (r i) (r j) ≠ 0 := fun e => q ((tri_eq _ _).mp e)
    refine kat_no (oneLt_ints hi r1 r1' hu ?_)
    have : ltP r i j = lexI .Lt (r i) (r j) := by rw [lex_lt]; unfold ltP; simp [ht]
    rw [this] at h
    exact h
theorem kind_pairs {r : Nat → List Int} {n : Nat} {vs : List Value} {s : Shared} {A : Around} {E : Value → Shared → Prop} {Q : SortKind → Shared → Prop} (hi : InH Z s.heap) (rv : RepL Z vs (pairsPV r n)) (h0 : 0 < n) (h : Q (tuples' true) s) : wpAny (model prog w) A (keyKind' (List.toArray vs)) Q E s := by
  have hall : ∀ {vs : List Value} {l : List Nat}, RepL Z vs (l.map (pairPV r)) → ∃ fs, KatTups s.heap vs fs ∧ fs.length = l.length ∧ ∀ v ∈ fs, Looks (model prog w) s.heap (typeOf v) (.type "list") := by
    intro vs l
    induction l generalizing vs with
    | nil => intro h; cases h; exact ⟨[], .nil, rfl, fun v hv => nomatch hv⟩
    | cons j l ih =>
      intro h
      cases h with
      | cons hv hr =>
        obtain ⟨fs, h1, h2, h3⟩ := ih hr
        unfold pairPV at hv
        cases hv with
        | @tup a o m us _ hz hc hd rr =>
          obtain ⟨_, _, rfl, x1, x2⟩ := rr.two_inv
          rename_i f _
          obtain ⟨lf, vf, rfl, hl, _⟩ := x1.isList hi
          refine ⟨.ref lf :: fs, KatTups.cons (hi.get hz) hc hd rfl h1, by simp [h2], fun v hv => ?_⟩
          rcases List.mem_cons.mp hv with rfl | hv
          · obtain ⟨ol, hol, hcl, _⟩ := hl
            have : Looks (model prog w) s.heap (typeOf (.ref lf)) ol.cls := (Looks.ld hol).andThen .now
            rw [hcl] at this
            exact this
          · exact h3 v hv
  obtain ⟨fs, h1, h2, h3⟩ := hall rv
  refine kat_kind (T := .type "list") h1 (by rw [h2, List.length_range]; exact h0) h3 (by decide) ?_
  exact h
theorem op_sorted_pairs {v : Value} {r : Nat → List Int} {n : Nat} (h : Rep Z v (.list (pairsPV r n))) (h2 : 2 ≤ n) (h64 : n < 64) (hk : 9 ≤ k) : Op prog w Z0 (k + 2) Z (call (.builtin "sorted") [v]) (.list (ordP (ltP r) (pairsPV r n))) := by
  have hl : (pairsPV r n).length = n := by simp [pairsPV]
  refine op_sorted (κ := tuples' true) (Col.list h (by (first | exact ar356 h64 hl | (first | lia | omega)))) (by (first | exact ar291 h2 hl | (first | lia | omega))) (by (first | exact ar292 h64 hl | (first | lia | omega))) (fun A s₁ Z₁ vs rm hle h1 rv Q hq => kind_pairs h1 rv (by (first | exact ar284 h2 | (first | lia | omega))) hq) (fun A s₁ Z₁ vs i j C rm hi hj hle h1 rv hC => ?_)
  rw [hl] at hi hj
  exact ask_pair h1 (rm.u64 hk) rv hi hj (hC s₁ Z₁ (.refl h1))
end Mq
set_option tactic.hygienic false
namespace Mq
open PySem PySem.Spec PySem.Calls PyProof.Rows PySem.W
variable {w : World} {Z0 : Fz} {mg mb : Str → Option Value} {Z : Fz} {C N md f0 f1 f2 f3 f4 f5 cm : Addr} {on : Obj} {es : Array DictEntry} {v0 : Value}
/-- reading the slot of an object -/
theorem wp_attr {prog : Program} {w' : World} {A : Around} {E : Value → Shared → Prop} {Z₁ : Fz} {u : Value} {n : Int} {s : Shared} (KI : KInfo w Z C v0 N md f0 f1 f2 f3 f4 f5 cm on es) (r : Le0 A) (hle : LeZ Z Z₁) (hi : InH Z₁ s.heap) (hu : Rep Z₁ u (.abs (KInst C n))) : wpAny (model prog w') A (getAttr u "obj" true) (Post s Z₁ (.int n)) E s := by
  cases hu with
  | abs hu l =>
    obtain ⟨x, dx, t, rfl, hx, hd⟩ := hu
    have gx := hi.get (l _ _ hx)
    have gd := hi.get (l _ _ hd)
    obtain ⟨q, sub, col, y0, y1, y2, y3, y5, hC⟩ := KI.cls
    have L0 : Looks (model prog w') s.heap (typeOf (.ref x)) (.ref C) := (Looks.ld gx).andThen .now
    have L1 : Looks (model prog w') s.heap (typeLookup (.ref C) "__getattribute__") (some (.builtin "object.__getattribute__")) := look_past (hi.get (hle _ _ hC)) rfl (hi.get (hle _ _ KI.dic)) KI.n9 (by kernel_rfl)
    unfold getAttr getAttrBy
    refine wpAny_bind (wpAny_mkText (wpAny_holding (wpAny_bind (L0 _ _ _ _ (fun _ _ e => e) (wpAny_bind (L1 _ _ _ _ (fun _ _ e => e) ?_))))))
    show wpAny _ _ (getAttrEveryday _ _ _) _ _ _
    have H : wpAny (model prog w') A0 (runValue (.builtin "proto.getattr_hooked" ⟨[.ref x, .str "obj" s.toks], []⟩)) (XP { s with toks := s.toks + 1 } fun v h' => v = .int n t) (fun _ _ => False) { s with toks := s.toks + 1 } := KI.get (hi.of_le hle) gx gd
    refine wpAny_bind (wpAny_onRaise (wpAny_mono (r.go (E := fun _ _ => False) H) (fun v s' z => ?_) fun _ _ z => z.elim))
    obtain ⟨h', tk, rfl, hk, rfl⟩ := z
    exact wpAny_pure ⟨Z₁, Ext.keeps hi hk, .int _ _⟩
section
variable {prog : Program} {w' : World} {k : Nat} {env : Env} {ρ : PEnv}
theorem Ev.attrObj {x : Str} {np pos : Pos} {n : Int} (KI : KInfo w Z C v0 N md f0 f1 f2 f3 f4 f5 cm on es) (hle : LeZ Z Z0) (hk : 120 ≤ k) (hx : Ev prog w' Z0 k env ρ (.Name x np) (.abs (KInst C n))) : Ev prog w' Z0 k env ρ (.Attribute (.Name x np) "obj" pos) (.int n) := fun S Z₁ s A E r p =>
  Attribute_name (wpAny_mono (hx S Z₁ s A E r p) (fun u s₁ q => by
    obtain ⟨Z₂, e₂, ru⟩ := q
    have p₂ := p.ext e₂
    exact wpAny_mono (wp_attr KI (r.le0 hk) (hle.trans p₂.base) p₂.fin ru) (fun _ _ z => z.ext e₂) fun _ _ x => x) fun _ _ x => x)
end
/-- what a method's text is -/
structure MthF (w : World) (name : String) (i : Nat) (op : CmpOp) : Prop where
  body : ∃ p1 p2 p3 p4 p5 p6 p7 p8 k p9, (clsDef w i).2.1 = [.Return (some (.Compare (.Call (.Name "mycmp" p1) [.Attribute (.Name "self" p2) "obj" p3, .Attribute (.Name "other" p4) "obj" p5] [] p6) [op] [.Constant (.int 0) k p7] p8)) p9]
  names : (clsDef w i).2.2.names = [(("self" : Str), NameKind.local), (("other" : Str), NameKind.local), (("mycmp" : Str), NameKind.free)]
  kind : (clsDef w i).2.2.kind = .function
  co : (clsDef w i).2.2.isCoroutine = false
  gen : (clsDef w i).2.2.isGenerator = false
  bind : ∀ (cl : List (Str × Addr)) (T : Addr) (pm : Value) (cc : Addr) (a b : Value), bindArgs (fdC name (kq name) (clsDef w i).1 (clsDef w i).2.1 (clsDef w i).2.2 cl T pm (.ref cc)) ⟨[a, b], []⟩ = pure [(("self" : Str), a), (("other" : Str), b)]
theorem mf3 (w : World) : MthF w "__lt__" 3 .Lt := ⟨⟨_, _, _, _, _, _, _, _, _, _, rfl⟩, rfl, rfl, rfl, rfl, fun _ _ _ _ _ _ => by kernel_rfl⟩
theorem mf4 (w : World) : MthF w "__gt__" 4 .Gt := ⟨⟨_, _, _, _, _, _, _, _, _, _, rfl⟩, rfl, rfl, rfl, rfl, fun _ _ _ _ _ _ => by kernel_rfl⟩
theorem mf5 (w : World) : MthF w "__eq__" 5 .Eq := ⟨⟨_, _, _, _, _, _, _, _, _, _, rfl⟩, rfl, rfl, rfl, rfl, fun _ _ _ _ _ _ => by kernel_rfl⟩
theorem mf6 (w : World) : MthF w "__le__" 6 .LtE := ⟨⟨_, _, _, _, _, _, _, _, _, _, rfl⟩, rfl, rfl, rfl, rfl, fun _ _ _ _ _ _ => by kernel_rfl⟩
theorem mf7 (w : World) : MthF w "__ge__" 7 .GtE := ⟨⟨_, _, _, _, _, _, _, _, _, _, rfl⟩, rfl, rfl, rfl, rfl, fun _ _ _ _ _ _ => by kernel_rfl⟩
theorem op_cmp_int5 {prog : Program} {w : World} {Z0 : Fz} {k : Nat} {Z : Fz} {v u : Value} {a b : Int} (op : CmpOp) (ho : op ∈ [CmpOp.Lt, .LtE, .Eq, .GtE, .Gt]) (h1 : Rep Z v (.int a)) (h2 : Rep Z u (.int b)) : Op prog w Z0 k Z (compareOp op v u) (.bool (opI op a b)) := fun s A E r hi => by
  obtain ⟨t, rfl⟩ := h1.isInt; obtain ⟨t', rfl⟩ := h2.isInt
  simp only [List.mem_cons, List.not_mem_nil, or_false] at ho
  rcases ho with rfl | rfl | rfl | rfl | rfl
  · exact PyProof.Rows.lt_int ⟨Z, .refl hi, .bool _⟩
  · exact PyProof.Rows.le_int ⟨Z, .refl hi, .bool _⟩
  · exact PyProof.Rows.eq_int ⟨Z, .refl hi, .bool _⟩
  · exact PyProof.Rows.ge_int ⟨Z, .refl hi, .bool _⟩
  · exact PyProof.Rows.gt_int ⟨Z, .refl hi, .bool _⟩
theorem cmp_plain {op : CmpOp} (ho : op ∈ [CmpOp.Lt, .LtE, .Eq, .GtE, .Gt]) (k : Nat) (p : Pos) : behindInMarks op (.Constant (.int 0) k p) = false := by
  simp only [List.mem_cons, List.not_mem_nil, or_false] at ho
  rcases ho with rfl | rfl | rfl | rfl | rfl <;> with_unfolding_all rfl
theorem fn_mth {g : Addr} {go : Obj} {fd : FuncData} {a b c : Int} {name : String} {i : Nat} {op : CmpOp} {f cc : Addr} (K : Kit w Z mg mb) (KI : KInfo w Z C (.ref g) N md f0 f1 f2 f3 f4 f5 cm on es) (M : MthF w name i op) (hm : mthC w Z cm f cc name i) (ho : op ∈ [CmpOp.Lt, .LtE, .Eq, .GtE, .Gt])
    (hgo : Z g = some go) (hfd : go.data = .func fd) (hF : Fn prg w Z 21 (.ref g) [.int a, .int b] (.int c)) : Fn prg w Z 131 (.ref f) [.abs (KInst C a), .abs (KInst C b)] (.bool (opI op c 0)) := by
  obtain ⟨T, pm, co, vs, t, h1, h2, h3, h4, h5⟩ := hm
  obtain ⟨oc, hoc, hdc⟩ := KI.cmo
  obtain ⟨p1, p2, p3, p4, p5, p6, p7, p8, k, p9, hbd⟩ := M.body
  have hlk : ∀ y, (clsDef w i).2.2.names.lookup y = ([(("self" : Str), NameKind.local), (("other" : Str), NameKind.local), (("mycmp" : Str), NameKind.free)] : List (Str × NameKind)).lookup y := fun y => by rw [M.names]
  refine Fn.mkD (names := ["self", "other"]) [("mycmp", .fz (.val (.ref g)))] K.base h1 rfl (fun h' hi => ⟨cc, co, vs, t, rfl, hi.get h2, h4, h5⟩) rfl rfl (fun s us hus _ => ?_) (by decide) (fun y hy => ?_) (fun y hy => (hlk y).trans ?_) rfl rfl (fun y sl hy => ?_) (fun L => ?_) M.co M.gen M.kind
  · match us, hus with
    | [a, b], _ => exact BindsTo.of_eq (M.bind _ _ _ _ _ _)
  · have hy' : y ∈ (clsDef w i).2.2.names := hy
    rw [M.names] at hy'
    simp only [List.mem_cons, List.not_mem_nil, or_false] at hy'
    rcases hy' with rfl | rfl | rfl <;> decide
  · simp only [List.mem_cons, List.not_mem_nil, or_false] at hy
    rcases hy with rfl | rfl <;> rfl
  · by_cases e : y = "mycmp"
    · subst e
      simp at hy
      subst hy
      exact ⟨_, cm, oc, .ref g, rfl, (hlk _).trans rfl, rfl, hoc, hdc, .val _⟩
    · rw [lookup_cons_ne e] at hy; simp at hy
  · show Bd prg w Z 130 _ _ (clsDef w i).2.1 _
    rw [hbd]
    refine Bd.ret (Ev.cmp (a := .int c) (b := .int 0) (Ev.callF (f := g) (ds := [.int a, .int b]) (Ev.name rfl) (Evs.cons (Ev.attrObj KI (.refl _) (by decide) (Ev.name rfl)) (Evs.cons (Ev.attrObj KI (.refl _) (by decide) (Ev.name rfl)) Evs.nil)) hgo hfd (hF.le (by decide))) Ev.int (fun Z v u _ h1 h2 => op_cmp_int5 op ho h1 h2) (cmp_plain ho _ _))
end Mq
set_option tactic.hygienic false
namespace Mq
open PySem PySem.Spec PySem.Calls PyProof.Rows PySem.W
variable {w : World} {Z0 : Fz} {mg mb : Str → Option Value} {Z : Fz} {C N md f0 f1 f2 f3 f4 f5 cm : Addr} {on : Obj} {es : Array DictEntry} {v0 : Value}
/-- the class's method for a comparison -/
noncomputable def mthOf (f1 f2 f3 f4 f5 : Addr) : CmpOp → Addr
  | .Lt => f1
  | .Gt => f2
  | .LtE => f4
  | .GtE => f5
  | _ => f3
theorem KInfo.find {op : CmpOp} (KI : KInfo w Z C v0 N md f0 f1 f2 f3 f4 f5 cm on es) (ho : op ∈ [CmpOp.Lt, .LtE, .Eq, .GtE, .Gt]) : nsFind es (cmpInfo op).2.1 = some (.ref (mthOf f1 f2 f3 f4 f5 op)) ∧ (∃ o, Z (mthOf f1 f2 f3 f4 f5 op) = some o ∧ o.cls = .type "function") ∧ ∃ y, typeLookup (.type "object") (cmpInfo op).2.1 = pure y := by
  simp only [List.mem_cons, List.not_mem_nil, or_false] at ho
  rcases ho with rfl | rfl | rfl | rfl | rfl
  · exact ⟨KI.n1, let ⟨c, h⟩ := KI.F1; h.fnc, some (.builtin "object.__lt__"), by rw [typeLookup_type, builtinLookup_eq_fast]; kernel_rfl⟩
  · exact ⟨KI.n4, let ⟨c, h⟩ := KI.F4; h.fnc, some (.builtin "object.__le__"), by rw [typeLookup_type, builtinLookup_eq_fast]; kernel_rfl⟩
  · exact ⟨KI.n3, let ⟨c, h⟩ := KI.F3; h.fnc, some (.builtin "object.__eq__"), by rw [typeLookup_type, builtinLookup_eq_fast]; kernel_rfl⟩
  · exact ⟨KI.n5, let ⟨c, h⟩ := KI.F5; h.fnc, some (.builtin "object.__ge__"), by rw [typeLookup_type, builtinLookup_eq_fast]; kernel_rfl⟩
  · exact ⟨KI.n2, let ⟨c, h⟩ := KI.F2; h.fnc, some (.builtin "object.__gt__"), by rw [typeLookup_type, builtinLookup_eq_fast]; kernel_rfl⟩
theorem KInfo.own {op : CmpOp} {h : Heap} {Z₁ : Fz} {x : Addr} {o : Obj} (KI : KInfo w Z C v0 N md f0 f1 f2 f3 f4 f5 cm on es) (ho : op ∈ [CmpOp.Lt, .LtE, .Eq, .GtE, .Gt]) (hle : LeZ Z Z₁) (hi : InH Z₁ h) (hx : h.get? x = some o) (hc : o.cls = .ref C) : h.OwnSpecial x C (mthOf f1 f2 f3 f4 f5 op) "object" (cmpInfo op).2.1 := by
  obtain ⟨q, sub, col, y0, y1, y2, y3, y5, hC⟩ := KI.cls
  obtain ⟨hn, ⟨of, hof, hfc⟩, y, hy⟩ := KI.find ho
  obtain ⟨ep, hd⟩ := KI.dat
  exact ⟨o, of, _, _, N, _, _, _, _, _, _, _, _, _, _, _, _, _, _, nsFind es, y, hx, hc, hi.get (hle _ _ hC), ⟨on, es, ep, hi.get (hle _ _ KI.dic), hd, KI.str, fun _ => rfl⟩, hn, hi.get (hle _ _ hof), hfc, PySem.F.cmp_object.mro, hy⟩
theorem KInfo.ne {h : Heap} {Z₁ : Fz} {x : Addr} {o : Obj} (KI : KInfo w Z C v0 N md f0 f1 f2 f3 f4 f5 cm on es) (hle : LeZ Z Z₁) (hi : InH Z₁ h) (hx : h.get? x = some o) (hc : o.cls = .ref C) : h.OwnEqNoNe x C f3 "object" [.type "object"] := by
  obtain ⟨q, sub, col, y0, y1, y2, y3, y5, hC⟩ := KI.cls
  obtain ⟨hn, ⟨of, hof, hfc⟩, y, hy⟩ := KI.find (op := .Eq) (by simp)
  obtain ⟨ep, hd⟩ := KI.dat
  exact ⟨o, of, _, _, N, _, _, _, _, _, _, _, _, _, _, _, _, _, nsFind es, y, hx, hc, hi.get (hle _ _ hC), ⟨on, es, ep, hi.get (hle _ _ KI.dic), hd, KI.str, fun _ => rfl⟩, hn, hi.get (hle _ _ hof), hfc, PySem.F.cmp_object.mro, hy, KI.n6⟩
/-- the keys' five methods on two keys -/
theorem fn_mthOf {g : Addr} {go : Obj} {fd : FuncData} {a b c : Int} {op : CmpOp} (K : Kit w Z mg mb) (KI : KInfo w Z C (.ref g) N md f0 f1 f2 f3 f4 f5 cm on es) (ho : op ∈ [CmpOp.Lt, .LtE, .Eq, .GtE, .Gt])
    (hgo : Z g = some go) (hfd : go.data = .func fd) (hF : Fn prg w Z 21 (.ref g) [.int a, .int b] (.int c)) : Fn prg w Z 131 (.ref (mthOf f1 f2 f3 f4 f5 op)) [.abs (KInst C a), .abs (KInst C b)] (.bool (opI op c 0)) := by
  have ho' := ho
  simp only [List.mem_cons, List.not_mem_nil, or_false] at ho
  rcases ho with rfl | rfl | rfl | rfl | rfl
  · obtain ⟨cc, h⟩ := KI.F1; exact fn_mth K KI (mf3 w) h ho' hgo hfd hF
  · obtain ⟨cc, h⟩ := KI.F4; exact fn_mth K KI (mf6 w) h ho' hgo hfd hF
  · obtain ⟨cc, h⟩ := KI.F3; exact fn_mth K KI (mf5 w) h ho' hgo hfd hF
  · obtain ⟨cc, h⟩ := KI.F5; exact fn_mth K KI (mf7 w) h ho' hgo hfd hF
  · obtain ⟨cc, h⟩ := KI.F2; exact fn_mth K KI (mf4 w) h ho' hgo hfd hF
noncomputable def cmpB (c : Int) : CmpOp → Bool
  | .NotEq => !decide (c = 0)
  | .Eq => decide (c = 0)
  | op => opI op c 0
theorem cmp_info {op : CmpOp} : cmpInfo op = ((cmpInfo op).1, (cmpInfo op).2.1, (cmpInfo op).2.2) := rfl
theorem op_cmpK {g : Addr} {go : Obj} {fd : FuncData} {a b c : Int} {op : CmpOp} {Z₁ : Fz} {v u : Value} (K : Kit w Z mg mb) (KI : KInfo w Z C (.ref g) N md f0 f1 f2 f3 f4 f5 cm on es) (ho : op ∈ [CmpOp.Lt, .LtE, .Eq, .NotEq, .GtE, .Gt])
    (hgo : Z g = some go) (hfd : go.data = .func fd) (hF : Fn prg w Z 21 (.ref g) [.int a, .int b] (.int c)) (hle : LeZ Z Z₁) (hv : Rep Z₁ v (.abs (KInst C a))) (hu : Rep Z₁ u (.abs (KInst C b))) : Op prg w Z 132 Z₁ (compareOp op v u) (.bool (cmpB c op)) := fun s A E r hi => by
  have hv' := hv
  have hu' := hu
  cases hv with
  | @abs _ Za _ hva la =>
  cases hu with
  | @abs _ Zb _ hub lb =>
  obtain ⟨x, dx, t, rfl, hx, hdx⟩ := hva
  obtain ⟨y, dy, t', rfl, hy, hdy⟩ := hub
  have hru : A.units + 1 < cLine := by have := r.units; (first | exact ar305 this | (first | lia | omega))
  have five : ∀ op : CmpOp, op ∈ [CmpOp.Lt, .LtE, .Eq, .GtE, .Gt] → ∀ (A : Around) (Q : Value → Shared → Prop), Room A 131 → (∀ s', (∃ Z', Ext s Z₁ s' Z') → Q (.bool (opI op c 0)) s') → wpAny (model prg w) A (call (.ref (mthOf f1 f2 f3 f4 f5 op)) [.ref x, .ref y]) Q E s := fun op ho A Q r hQ =>
    wpAny_mono ((fn_mthOf K KI ho hgo hfd hF).call r hle hi (.cons hv' (.one hu'))) (fun z s' q => by
      obtain ⟨Z', e, rz⟩ := q
      obtain rfl := rz.isBool
      exact hQ s' ⟨Z', e⟩) fun _ _ q => q
  have main : ∀ op : CmpOp, op ∈ [CmpOp.Lt, .LtE, .Eq, .GtE, .Gt] → op ≠ .Is ∧ op ≠ .IsNot ∧ op ≠ .In ∧ op ≠ .NotIn → wpAny (model prg w) A (compareOp op (.ref x) (.ref y)) (Post s Z₁ (.bool (opI op c 0))) E s := fun op ho hp =>
    compareOp_own_same cmp_info hp (KI.own ho hle hi (hi.get (la _ _ hx)) rfl) (hi.get (lb _ _ hy)) rfl (by (first | exact ar134 hru | (first | lia | omega))) (five op ho A _ (r.le (by decide)) fun s' ⟨Z', e⟩ => ⟨_, rfl, Z', e, .bool _⟩)
  simp only [List.mem_cons, List.not_mem_nil, or_false] at ho
  rcases ho with rfl | rfl | rfl | rfl | rfl | rfl
  · exact main .Lt (by simp) (by simp)
  · exact main .LtE (by simp) (by simp)
  · have := main .Eq (by simp) (by simp)
    have e : opI .Eq c 0 = cmpB c .Eq := by simp only [opI, cmpB]; exact Bool.beq_eq_decide_eq c 0
    rw [e] at this; exact this
  · refine compareOp_ne_ownEq PySem.F.cmp_object (KI.ne hle hi (hi.get (la _ _ hx)) rfl) (hi.get (lb _ _ hy)) rfl hru ?_
    refine five .Eq (by simp) A.in1 _ r.in1 fun s' ⟨Z', e⟩ => ⟨_, rfl, Z', e, ?_⟩
    have e : (!opI .Eq c 0) = cmpB c .NotEq := by simp only [opI, cmpB, Bool.beq_eq_decide_eq]
    rw [e]
    exact .bool _
  · exact main .GtE (by simp) (by simp)
  · exact main .Gt (by simp) (by simp)
/-- the sort's question on two keys -/
theorem ask_key {g : Addr} {go : Obj} {fd : FuncData} {a b c : Int} {Z₁ : Fz} {v u : Value} {s : Shared} {A : Around} {D : Bool → Shared → Prop} {E : Value → Shared → Prop} (K : Kit w Z mg mb) (KI : KInfo w Z C (.ref g) N md f0 f1 f2 f3 f4 f5 cm on es)
    (hgo : Z g = some go) (hfd : go.data = .func fd) (hF : Fn prg w Z 21 (.ref g) [.int a, .int b] (.int c)) (hle : LeZ Z Z₁) (hv : Rep Z₁ v (.abs (KInst C a))) (hu : Rep Z₁ u (.abs (KInst C b))) (r : Room A 131) (hi : InH Z₁ s.heap)
    (hD : ∀ s' Z', Ext s Z₁ s' Z' → D (opI .Lt c 0) s') : wpAny (model prg w) A (keyLt' oneType' v u) D E s := by
  have hv' := hv
  have hu' := hu
  cases hv with
  | @abs _ Za _ hva la =>
  cases hu with
  | @abs _ Zb _ hub lb =>
  obtain ⟨x, dx, t, rfl, hx, hdx⟩ := hva
  obtain ⟨y, dy, t', rfl, hy, hdy⟩ := hub
  have hru : A.units < cLine := by have := r.units; (first | exact ar306 this | (first | lia | omega))
  rw [keyLt'_oneType, oneLt'_eq]
  simp only [if_true]
  refine wpAny_bind (wpAny_cRoomFor hru ?_)
  refine wpAny_bind (wpAny_callSpecialIfBound?_own (KI.own (op := .Lt) (by simp) hle hi (hi.get (la _ _ hx)) rfl) (wpAny_mono ((fn_mthOf K KI (op := .Lt) (by simp) hgo hfd hF).call r hle hi (.cons hv' (.one hu'))) (fun z s' q => ?_) fun _ _ q => q))
  obtain ⟨Z', e, rz⟩ := q
  obtain rfl := rz.isBool
  exact wpAny_truthy_bool (hD s' Z' e)
end Mq
set_option tactic.hygienic false
namespace Mq
open PySem PySem.Spec PySem.Calls PyProof.Rows PySem.W
variable {w : World} {Z0 : Fz} {mg mb : Str → Option Value} {Z : Fz} {C N md f0 f1 f2 f3 f4 f5 cm : Addr} {on : Obj} {es : Array DictEntry} {v0 : Value}
theorem Op.le {prog : Program} {k k' : Nat} {t : Sem Value} {d : PV} (h : Op prog w Z0 k Z t d) (hk : k ≤ k') : Op prog w Z0 k' Z t d := fun s A E r hi => h s A E (r.le hk) hi
noncomputable def keysPV (C : Addr) (n : Nat) : List PV := (List.range n).map fun (i : Nat) => .abs (KInst C i)
noncomputable def numsPV (n : Nat) : List PV := (List.range n).map fun (i : Nat) => PV.int i
theorem keysPV_get {n i : Nat} (h : i < n) : (keysPV C n)[i]? = some (.abs (KInst C i)) := by
  unfold keysPV; rw [List.getElem?_map, List.getElem?_range h]; rfl
theorem KInfo.mono {Z' : Fz} (KI : KInfo w Z C v0 N md f0 f1 f2 f3 f4 f5 cm on es) (hle : LeZ Z Z') : KInfo w Z' C v0 N md f0 f1 f2 f3 f4 f5 cm on es := by
  obtain ⟨⟨q, sub, col, y0, y1, y2, y3, y5, hC⟩, dic, dat, str, n0, n1, n2, n3, n4, n5, n6, n7, n8, n9, ⟨tb, hmd⟩, ⟨c0, F0⟩, ⟨c1, F1⟩, ⟨c2, F2⟩, ⟨c3, F3⟩, ⟨c4, F4⟩, ⟨c5, F5⟩, ⟨oc, hoc, hdc⟩, get⟩ := KI
  have up : ∀ {g : Addr} (o : Obj), Z g = some o → ¬ Tb o → Z' g = some o := fun o e _ => hle _ _ e
  exact ⟨⟨q, sub, col, y0, y1, y2, y3, y5, hle _ _ hC⟩, hle _ _ dic, dat, str, n0, n1, n2, n3, n4, n5, n6, n7, n8, n9, ⟨tb, hle _ _ hmd⟩, ⟨c0, F0.up up up⟩, ⟨c1, F1.up up up⟩, ⟨c2, F2.up up up⟩, ⟨c3, F3.up up up⟩, ⟨c4, F4.up up up⟩, ⟨c5, F5.up up up⟩, ⟨oc, hle _ _ hoc, hdc⟩, fun hi => get (hi.of_le hle)⟩
theorem op_sorted_keys {g : Addr} {go : Obj} {fd : FuncData} {Z₁ : Fz} {v : Value} {n : Nat} {lt : Nat → Nat → Bool} {c : Nat → Nat → Int} (K : Kit w Z mg mb) (KI : KInfo w Z C (.ref g) N md f0 f1 f2 f3 f4 f5 cm on es)
    (hgo : Z g = some go) (hfd : go.data = .func fd) (hF : ∀ i j : Nat, i < n → j < n → Fn prg w Z 21 (.ref g) [.int (i : Int), .int (j : Int)] (.int (c i j))) (hlt : ∀ i j, i < n → j < n → opI .Lt (c i j) 0 = lt i j) (hle : LeZ Z Z₁) (hv : Rep Z₁ v (.range n)) (h2 : 2 ≤ n) (h64 : n < 64) :
    Op prg w Z 133 Z₁ (call (.builtin "sorted") [v] [(Str.ofString "key", .ref C)]) (.list (ordP lt (numsPV n))) := by
  have hl : (numsPV n).length = n := by simp [numsPV]
  have hlk : (keysPV C n).length = n := by simp [keysPV]
  refine op_sortedK (κ := oneType') (ds := keysPV C n) (Col.range hv (by (first | exact ar307 h64 | (first | lia | omega)))) (by rw [hl, hlk]) (by (first | exact ar291 h2 hl | (first | lia | omega))) (by (first | exact ar292 h64 hl | (first | lia | omega))) (fun i x d hx hd Z₂ u hle2 hu => ?_) (fun A s₁ Z₂ ks rm hle2 h1 rk Q hq => ?_) (fun A s₁ Z₂ ks i j D rm hi hj hle2 h1 rk hD => ?_)
  · have hin : i < n := by have := (List.getElem?_eq_some_iff.mp hx).1; (first | exact ar293 hl this | (first | lia | omega))
    rw [numsPV, List.getElem?_map, List.getElem?_range hin] at hx
    rw [keysPV_get hin] at hd
    cases hx; cases hd
    exact (op_key (K.base.mono (hle.trans hle2)) (.refl _) (KI.mono (hle.trans hle2)) hu).le (by decide)
  · refine kas_kind (T := .ref C) (by rw [rk.length]; (first | exact ar291 h2 hlk | (first | lia | omega))) (fun u hu => ?_) (by rfl) (by simp) hq
    obtain ⟨i, hi⟩ := List.mem_iff_getElem?.mp hu
    obtain ⟨d, hd, rd⟩ := rk.get hi
    have hin : i < n := by have := (List.getElem?_eq_some_iff.mp hd).1; (first | exact ar293 hlk this | (first | lia | omega))
    rw [keysPV_get hin] at hd
    cases hd
    cases rd with
    | abs rd l =>
      obtain ⟨x, dx, t, rfl, hx, hdx⟩ := rd
      exact (Looks.ld (h1.get (l _ _ hx))).andThen .now
  · have hi' : i < n := by (first | exact ar293 hl hi | (first | lia | omega))
    have hj' : j < n := by (first | exact ar293 hl hj | (first | lia | omega))
    obtain ⟨x, hx, rx⟩ := rk.get' (keysPV_get (C := C) hi')
    obtain ⟨y, hy, ry⟩ := rk.get' (keysPV_get (C := C) hj')
    unfold kas_ask
    rw [List.getD_eq_getElem?_getD, List.getD_eq_getElem?_getD, hx, hy]
    have e := hlt i j hi' hj'
    refine ask_key K KI hgo hfd (hF i j hi' hj') (hle.trans hle2) rx ry rm h1 fun s' Z' ex => ?_
    rw [e]
    exact hD s' Z' ex
end Mq
set_option tactic.hygienic true
namespace Mq
open PySem PySem.Spec PySem.Calls PyProof.Rows PySem.W
theorem list_keys_none : typeLookup (.type "list") "keys" = pure none := by rw [typeLookup_type, builtinLookup_eq_fast]; kernel_rfl
/-- a list has no attribute `keys` -/
theorem attr_keys_list {prog : Program} {w : World} {A : Around} {E : Value → Shared → Prop} {s : Shared} {a : Addr} {o : Obj} {xs : Array Value} {k : Nat} {Q : Option Value → Shared → Prop}
    (hx : s.heap.get? a = some o) (hc : o.cls = .type "list") (hdat : o.data = .seq xs k) (hd : o.dict = none) (hA : A.handled = none)
    (h : ∀ (h' : Heap) tk e, Heap.NewExcOf s.heap h' e "AttributeError" → Q none { s with heap := h', toks := tk }) :
    wpAny (model prog w) A (getAttr? (.ref a) "keys") Q E s := by
  obtain ⟨c, dct, dat, sl⟩ := o
  simp only at hc hdat hd
  subst hc hdat hd
  obtain ⟨hp, g, d, tk, os⟩ := s
  have hT : ∀ tk', (⟨hp, g, d, tk', os⟩ : Shared).TypeIs (.ref a) "list" := fun _ => ⟨_, hx, rfl⟩
  have f1 := sub_AttributeError
  have f3 := F.slot_list_getattribute.lookup
  have f4 := F.slot_list_getattribute.bind (.ref a)
  have f5 := am_list_getattr_none
  unfold getAttr? getAttrBy? getAttrBy
  repeat (any_goals (first | assumption | exact hT _ | ((with_reducible show wpAny _ _ (call (Value.builtin "list.__getattribute__") _ _) _ _ _); refine call_meets F.slot_list_getattribute (hT _) am_entry_list_getattribute (F.args_list_getattribute_2 _ _) (meets_getattribute_miss_list a xs k sl "keys" _ list_keys_none (by decide +kernel) (by size_fits)) ⟨hx, hA, fun h' tk' e hx' => ?_⟩) | wp_step))
  obtain ⟨t', u', he⟩ := hx'.there
  show wpAny _ _ (getattributeRaised _ _ _ _ _ _ _) _ _ _
  unfold getattributeRaised
  repeat (any_goals (first | assumption | wp_step))
  all_goals exact h _ _ _ hx'.of
theorem plain_dict_loop : plainId "dict.update.loop" = true := by decide +kernel
theorem entry_dict_loop : entryFor table "dict.update.loop" = some Builtin.«dict.update.loop» := entryFor_of_tree (by kernel_rfl)
theorem pair_items {prog : Program} {w : World} {A : Around} {E : Value → Shared → Prop} {s : Shared} {a : Addr} {o : Obj} {vs : Array Value} {n : Nat} {Q : List Value → Shared → Prop} (ho : s.heap.get? a = some o) (hc : o.cls = .type "tuple") (hd : o.data = .seq vs n) (h : Q vs.toList s) :
    wpAny (model prog w) A (Builtin.Dict.pairItems (.ref a)) Q E s := by
  have hT : s.TypeIs (.ref a) "tuple" := ⟨_, ho, hc⟩
  unfold Builtin.Dict.pairItems
  refine wpAny_bind (wpAny_typeOf hT ?_)
  rw [if_pos (by decide)]
  refine wpAny_bind ?_
  unfold seqItems?
  refine wpAny_bind (wpAny_load ho ?_)
  rw [hd]
  exact wpAny_pure (wpAny_pure h)
/-- the loop of dict(list of pairs) -/
theorem dict_loop {prog : Program} {w : World} {A : Around} {R : Result → Shared → Prop} {Z : Fz} {I D : Addr} {rs : List (Int × PV)} {fp : List Addr} {P : Nat → Value → Prop} {St : Nat → Heap → Prop}
    (it : It prog w A.in1 Z (rs.map fun p => .tup [.int p.1, p.2]) I fp P St) (hn : (rs.map (·.1)).Nodup) (hsz : rs.length ≤ 1000) (hZI : Z I = none) (hZD : Z D = none) (hID : I ≠ D) : ∀ (m i : Nat) (s : Shared) (vs : List Value), i + m = rs.length → St i s.heap → InH Z s.heap →
      s.heap.DictOf (intKind prog w) D (((rs.take i).map (·.1)).zip vs) → vs.length = i → RepL Z vs ((rs.take i).map (·.2)) →
      (∀ (h' : Heap) tk vs', (∀ b x, b ≠ I → b ≠ D → s.heap.get? b = some x → h'.get? b = some x) → h'.DictOf (intKind prog w) D ((rs.map (·.1)).zip vs') → vs'.length = rs.length → RepL Z vs' (rs.map (·.2)) → R (.ok (.ret .none)) { s with heap := h', toks := tk }) →
      codeAny (model prog w) A (.builtin "dict.update.loop" ⟨[.ref D, .ref I, rawInt (i : Int), .none], []⟩) R s
  | 0, i, s, vs, hm, hst, hi, hd, hl, hr, hR => by
    have hin : i = rs.length := by (first | exact ar27 hm | (first | lia | omega))
    subst hin
    refine codeAny_builtin entry_dict_loop ?_
    rw [Around.under_plainId plain_dict_loop _]
    show wpAny _ A.in1 (pyNext (.ref I) >>= _) _ _ s
    refine wpAny_bind (it.W.done s _ _ (by simpa using hst) fun h' tk hk => ?_)
    show wpAny _ _ (Builtin.Dict.addKeywords D [] >>= _) _ _ _
    refine wpAny_bind (wpAny_pure (wpAny_pure ?_))
    rw [List.take_length] at hd hr
    refine hR h' tk vs (fun b x h1 _ e => hk b x (by simpa using h1) e) ?_ hl hr
    obtain ⟨o, es, ep, ho, hrest⟩ := hd
    exact ⟨o, es, ep, hk D o (by simpa using hID.symm) ho, hrest⟩
  | m + 1, i, s, vs, hm, hst, hi, hd, hl, hr, hR => by
    have hlt : i < rs.length := by (first | exact ar28 hm | (first | lia | omega))
    refine codeAny_builtin entry_dict_loop ?_
    rw [Around.under_plainId plain_dict_loop _]
    show wpAny _ A.in1 (pyNext (.ref I) >>= _) _ _ s
    refine wpAny_bind (it.W.item i s _ _ (by simpa using hlt) hst fun v h' tk hP hst' hk => ?_)
    have hk' : ∀ b x, b ≠ I → s.heap.get? b = some x → h'.get? b = some x := fun b x h1 e => hk b x (by simpa using h1) e
    have hi' : InH Z h' := fun a o e => ⟨hk' a o (fun q => by rw [q, hZI] at e; cases e) (hi.get e), hi.nt e⟩
    obtain ⟨d, hdv, rv⟩ := it.val i v (by simpa using hlt) hP
    have hx : rs[i]? = some rs[i] := List.getElem?_eq_getElem hlt
    rw [List.getElem?_map, hx] at hdv
    cases hdv
    obtain ⟨a, us, rfl, ⟨o, ho, hc, n, hdt⟩, r1⟩ := rv.isTup hi'
    obtain ⟨_, _, rfl, x1, x2⟩ := r1.two_inv
    obtain ⟨t, rfl⟩ := x1.isInt
    have hD' : h'.DictOf (intKind prog w) D (((rs.take i).map (·.1)).zip vs) := by
      obtain ⟨o, es, ep, ho, hrest⟩ := hd
      exact ⟨o, es, ep, hk' D o hID.symm ho, hrest⟩
    refine wpAny_bind (wpAny_holding ?_)
    refine wpAny_bind ?_
    refine wpAny_tryCatch ?_
    refine pair_items ho hc hdt ?_
    show wpAny _ _ (holding [_, _] (dictSet D _ _)) _ _ _
    refine wpAny_holding ?_
    refine wpAny_dictSet_pairs (knd := intKind prog w) (k := rs[i].1) (by simp [intKind, Value.isInt]) hD' (fun h2 hD2 hs2 => ?_) (by rw [sizeLine_eq, List.length_zip]; simp; (first | exact ar29 hsz | (first | lia | omega)))
    refine wpAny_pure ⟨plainId_quiet plain_dict_loop _, ?_⟩
    rename_i v2
    have et : rs.take (i + 1) = rs.take i ++ [rs[i]] := by rw [List.take_add_one, hx]; rfl
    have e1 : (rs.take (i + 1)).map (·.1) = (rs.take i).map (·.1) ++ [rs[i].1] := by rw [et, List.map_append]; rfl
    have e2 : (rs.take (i + 1)).map (·.2) = (rs.take i).map (·.2) ++ [rs[i].2] := by rw [et, List.map_append]; rfl
    have hne : rs[i].1 ∉ (rs.take i).map (·.1) := fun hmem => by
      obtain ⟨p, hp, e⟩ := List.mem_map.mp hmem
      obtain ⟨j, hj, e3⟩ := List.mem_iff_getElem.mp hp
      rw [List.length_take] at hj
      rw [List.getElem_take] at e3
      refine List.pairwise_iff_getElem.mp hn j i (by simp; (first | exact ar30 hj | (first | lia | omega))) (by simpa using hlt) (by (first | exact ar31 hj | (first | lia | omega))) ?_
      rw [List.getElem_map, List.getElem_map, e3]; exact e
    have hst2 : stored (((rs.take i).map (·.1)).zip vs) rs[i].1 v2 = ((rs.take (i + 1)).map (·.1)).zip (vs ++ [v2]) := by
      unfold stored
      rw [if_neg]
      · rw [e1, List.zip_append (by simp; (first | exact ar32 hm hl | (first | lia | omega)))]; rfl
      · simp only [List.any_eq_true, not_exists, not_and]
        intro kv hkv
        have := (List.of_mem_zip (a := kv.1) (b := kv.2) hkv).1
        intro q
        exact hne (by have q' : kv.1 = rs[i].1 := by simpa using q
                      rw [← q']; exact this)
    rw [hst2] at hD2
    have hk2 : ∀ b x, b ≠ D → h'.get? b = some x → h2.get? b = some x := fun b x h1 e => (hs2.2 b h1).trans e
    refine dict_loop it hn hsz hZI hZD hID m (i + 1) { s with heap := h2, toks := tk + 1 } _ (by (first | exact ar33 hm | (first | lia | omega))) ?_ (fun a o e => ⟨hk2 a o (fun q => by rw [q, hZD] at e; cases e) (hi'.get e), hi'.nt e⟩) hD2 (by simp [hl]) (by rw [e2]; exact hr.append (.cons x2 .nil)) fun h3 tk3 vs3 hk3 hd3 hl3 hr3 => ?_
    · refine it.W.frame _ _ _ hst' fun b hb o e => ?_
      rcases it.fp b hb with rfl | ⟨o', hz⟩
      · exact hk2 _ _ hID e
      · exact hk2 _ _ (fun q => by rw [q, hZD] at hz; cases hz) e
    · exact hR h3 tk3 vs3 (fun b x h1 h2' e => hk3 b x h1 h2' (hk2 b x h2' (hk' b x h1 e))) hd3 hl3 hr3
theorem op_dict_pairs {prog : Program} {w : World} {Z0 Z : Fz} {k : Nat} {v : Value} {rs : List (Int × PV)} (h1 : Rep Z v (.list (rs.map fun p => .tup [.int p.1, p.2]))) (hn : (rs.map (·.1)).Nodup) (hsz : rs.length ≤ 1000) :
    Op prog w Z0 k Z (call (.type "dict") [v]) (dictP (rs.map (·.1)) (rs.map (·.2))) := fun s A E r hi => by
  have hl := h1
  cases h1 with
  | @list l o n vs _ e c dn dd r1 =>
  have ho := hi.get e
  refine ks_callType_codesW (Q₁ := fun obj s₁ => obj = .ref s.heap.objs.size ∧ s₁ = { s with heap := s.heap.push { cls := .type "dict", data := .dict #[] } }) F.kt_called_dict (fun h => wpAny_of_eq (F.kt_typeCall_dict_1 _) h) F.entry_dict_init (kt_code_dict_new _ ⟨rfl, rfl⟩) ?_
  rintro obj s₁ ⟨rfl, rfl⟩
  have hnew : (s.heap.push { cls := .type "dict", data := .dict #[] }).DictOf (intKind prog w) s.heap.objs.size [] := Heap.DictOf.new s.heap
  have kp : ∀ b x, s.heap.get? b = some x → (s.heap.push { cls := .type "dict", data := .dict #[] }).get? b = some x := fun b x e => Heap.get?_push_of_some _ e
  have ho' := kp _ _ ho
  refine ⟨hnew.typeIs, F.args_dict_init_2 _ _, ?_⟩
  unfold Builtin.«dict.__init__»
  refine wpAny_bind ?_
  unfold Builtin.Dict.selfAndRest
  refine wpAny_bind (wpAny_notOrdered_dict hnew.typeIs ?_)
  show wpAny _ _ (pure (s.heap.objs.size, [Value.ref l])) _ _ _
  refine wpAny_pure ?_
  show wpAny _ _ (Builtin.Dict.updateFrom "dict.__init__" s.heap.objs.size (.ref l) [] .none) _ _ _
  unfold Builtin.Dict.updateFrom
  refine wpAny_bind (wpAny_typeOf (T := "list") ⟨_, ho', c⟩ ?_)
  rw [if_pos (by decide)]
  refine wpAny_bind (attr_keys_list ho' c dd dn r.handled fun h1 tk1 ex hx => ?_)
  rw [if_pos (by rfl)]
  refine wpAny_bind (wpAny_rule ?_)
  have hi1 : InH Z h1 := fun a o e => ⟨hx.keeps _ _ (kp _ _ (hi.get e)), hi.nt e⟩
  have hD1 : h1.DictOf (intKind prog w) s.heap.objs.size [] := by
    obtain ⟨o, es, ep, ho, hrest⟩ := hnew
    exact ⟨o, es, ep, hx.keeps _ _ ho, hrest⟩
  have hDI : s.heap.objs.size < h1.objs.size := by
    obtain ⟨o, es, ep, ho, hrest⟩ := hD1
    exact Heap.lt_size ho
  refine wpAny_bind (iter_list (s := { s with heap := h1, toks := tk1 }) hl hi1 fun o fp P St it hf hst => ?_)
  refine wpAny_pure ⟨plainId_quiet plain_dict_loop _, ?_⟩
  have kp2 : ∀ b x, h1.get? b = some x → (h1.push o).get? b = some x := fun b x e => Heap.get?_push_of_some _ e
  have hD2 : (h1.push o).DictOf (intKind prog w) s.heap.objs.size [] := by
    obtain ⟨o, es, ep, ho, hrest⟩ := hD1
    exact ⟨o, es, ep, kp2 _ _ ho, hrest⟩
  refine dict_loop (A := A.in1) (i := 0) (m := rs.length) (vs := []) (s := { s with heap := h1.push o, toks := tk1 }) (it A.in1.in1 r.handled) hn hsz (hi1.off (get?_size h1)) (hi.off (get?_size s.heap)) (Ne.symm (Nat.ne_of_lt hDI)) (by (first | exact ar34 | (first | lia | omega))) hst (fun a o e => ⟨kp2 _ _ (hi1.get e), hi.nt e⟩) hD2 rfl .nil fun h3 tk3 vs3 hk3 hd3 hl3 hr3 => ⟨rfl, ?_⟩
  obtain ⟨od, hod, hid⟩ := IDict.of hd3
  have hS : s.heap.get? s.heap.objs.size = none := get?_size s.heap
  refine ⟨Z.add s.heap.objs.size od, Ext.add hi (fun b x e => hk3 b x (fun q => ?_) (fun q => ?_) (kp2 _ _ (hx.keeps _ _ (kp _ _ e)))) hS hod hid.nt, .abs (Z₁ := Z.add s.heap.objs.size od) ⟨_, od, vs3, rfl, Fz.add_self _ _ _, hid, by simpa using hl3, hr3.mono (Fz.le_add (hi.off hS))⟩ (.refl _)⟩
  · have := Heap.lt_size e
    have h9 : s.heap.objs.size < h1.objs.size := hDI
    rw [q] at this; exact absurd this (Nat.not_lt_of_le (Nat.le_of_lt h9))
  · rw [q, hS] at e; cases e
end Mq
set_option tactic.hygienic false
namespace Mq
open PySem PySem.Spec PySem.Calls PyProof.Rows PySem.W
section
variable {Z0 S Z Z' : Fz} {env : Env} {ρ : PEnv} {s s' : Shared} {Xs : List Addr}
theorem Mv.kp (m : Mv Xs s Z s' Z') (hX : ∀ b ∈ Xs, ∃ o, s.heap.get? b = some o ∧ Tb o) : Kp s.heap s'.heap := fun b o e n =>
  m.keep (fun hb => by obtain ⟨o', e', t⟩ := hX b hb; rw [e] at e'; cases e'; exact n t) e n
theorem SlotIs.kp (k : Kp s.heap s'.heap) (hle : LeZ Z Z') (off : ∀ a o, s.heap.get? a = some o → Z a = none → Z' a = none) {v : Value} {sl : Slot} (x : SlotIs S Z s.heap env.locals v sl) : SlotIs S Z' s'.heap env.locals v sl := x.gen hle (fun _ _ h n _ => k _ _ h n) off
theorem PreS.mv (p : PreS Z0 S Z env ρ s) (m : Mv Xs s Z s' Z') (hX : ∀ b ∈ Xs, ∃ o, s.heap.get? b = some o ∧ Tb o) : PreS Z0 S Z' env ρ s' := by
  have k := m.kp hX
  have off : ∀ a o, s.heap.get? a = some o → Z a = none → Z' a = none := fun a o e z => m.off e z
  refine ⟨⟨p.base.trans m.le, m.fin, p.snap.keeps k, p.kind, p.gl, p.bl, let ⟨m, h⟩ := p.ns; ⟨m, Ns_keeps k h⟩, fun x sl hx => ?_⟩, p.SL, ?_, fun x hx hF => ?_, p.apart⟩
  · obtain ⟨v, h1, h2⟩ := p.vars x sl hx
    exact ⟨v, h1.keeps k, h2.kp k m.le off⟩
  · obtain ⟨m, o, es, ep, ho, _⟩ := p.ns
    exact off _ _ ho p.ZL
  · obtain ⟨c, v, h1, h2, h3, h4⟩ := p.cells x hx hF
    exact ⟨c, v, h1, h2, let ⟨o, ho, _⟩ := h4; off _ _ ho h3, IsCell_keeps k h4⟩
theorem PreS.rebase (p : PreS Z0 S Z env ρ s) : PreS Z S Z env ρ s :=
  ⟨⟨.refl _, p.fin, p.snap, p.kind, p.gl, p.bl, p.ns, p.vars⟩, p.SL, p.ZL, p.cells, p.apart⟩
end
/-- a state of the law's own frame: what stood at the start, and the tables that have grown -/
structure LS (s₀ : Shared) (T : List Addr) (Z : Fz) (env : Env) (ρ : PEnv) (s : Shared) : Prop where
  pre : PreS Z (snapZ s₀.heap) Z env ρ s
  same : ∃ h' tk, s = { s₀ with heap := h', toks := tk }
  tabs : ∀ b o, s₀.heap.get? b = some o → Tb o → (b ∉ T ∧ s.heap.get? b = some o) ∨ (b ∈ T ∧ ∃ ps, s.heap.get? b = some (X.tableObj ps))
section
variable {s₀ s s' : Shared} {T Xs : List Addr} {Z Z' : Fz} {env : Env} {ρ ρ' : PEnv}
theorem LS.stp (L : LS s₀ T Z env ρ s) (st : Stp (snapZ s₀.heap) Z s s' Z') (p : PreS Z (snapZ s₀.heap) Z' env ρ' s') : LS s₀ T Z' env ρ' s' := by
  refine ⟨p.rebase, ?_, fun b o e t => ?_⟩
  · obtain ⟨h, t, rfl⟩ := L.same; obtain ⟨h', t', rfl⟩ := st.same; exact ⟨_, _, rfl⟩
  · rcases L.tabs b o e t with ⟨h, q⟩ | ⟨h, ps, q⟩
    · rcases st.tabs b o q t with q | ⟨t3, _⟩
      · exact .inl ⟨h, q⟩
      · exact t3.elim
    · rcases st.tabs b _ q (Tb.table _) with q | ⟨t3, _⟩
      · exact .inr ⟨h, ps, q⟩
      · exact t3.elim
theorem LS.ext (L : LS s₀ T Z env ρ s) (e : Ext s Z s' Z') : LS s₀ T Z' env ρ s' := L.stp (e.stp L.pre.snap) (L.pre.ext e)
theorem LS.mv {b : Addr} {vs ps : Array Value} (L : LS s₀ T Z env ρ s) (m : Mv [b] s Z s' Z') (hb : s.heap.get? b = some (X.tableObj vs)) (hb' : s'.heap.get? b = some (X.tableObj ps)) : LS s₀ (b :: T) Z' env ρ s' := by
  refine ⟨(L.pre.mv m fun c hc => ?_).rebase, ?_, fun c o e t => ?_⟩
  · simp at hc; subst hc; exact ⟨_, hb, Tb.table _⟩
  · obtain ⟨h, t, rfl⟩ := L.same; obtain ⟨h', t', rfl⟩ := m.same; exact ⟨_, _, rfl⟩
  · by_cases hc : c = b
    · subst hc; exact .inr ⟨by simp, ps, hb'⟩
    · have go : ∀ y, s.heap.get? c = some y → s'.heap.get? c = some y := fun y q => by
        rcases m.old c y (by simpa using hc) q with q | ⟨t3, _⟩
        · exact q
        · exact t3.elim
      rcases L.tabs c o e t with ⟨h, q⟩ | ⟨h, ps', q⟩
      · exact .inl ⟨by simp [hc, h], go _ q⟩
      · exact .inr ⟨by simp [h], ps', go _ q⟩
theorem LS.table {b : Addr} {o : Obj} (L : LS s₀ T Z env ρ s) (e : s₀.heap.get? b = some o) (t : Tb o) (hb : b ∉ T) : s.heap.get? b = some o := by
  rcases L.tabs b o e t with ⟨_, q⟩ | ⟨h, _⟩
  · exact q
  · exact absurd h hb
variable {prog : Program} {w : World} {k : Nat} {A : Around} {E : Value → Shared → Prop}
/-- a statement of the layer -/
theorem LS.step {st : Stmt} {rest : List Stmt} {Q : Flow → Shared → Prop} (L : LS s₀ T Z env ρ s) (r : Room A k) (h : X1 prog w Z k env ρ st ρ') (c : ∀ Z' s', LeZ Z Z' → LS s₀ T Z' env ρ' s' → wpAny (model prog w) A (execs rest env) Q E s') : wpAny (model prog w) A (execs (st :: rest) env) Q E s :=
  wpAny_execs_cons (wpAny_mono (h _ Z s A E r L.pre) (fun f s₁ q => by
    obtain ⟨rfl, Z₁, e₁, p₁⟩ := q
    exact c Z₁ s₁ e₁.le (L.stp e₁ p₁)) fun _ _ x => x)
/-- a name takes a value that made a table grow -/
theorem LS.assign {x : Str} {np pos : Pos} {e : Expr} {d : PV} {T' : List Addr} {rest : List Stmt} {Q : Flow → Shared → Prop} (h : wpAny (model prog w) A (eval e env) (fun v s₁ => ∃ Z₁, LeZ Z Z₁ ∧ LS s₀ T' Z₁ env ρ s₁ ∧ Rep Z₁ v d) E s) (hx : env.kindOf x = some .local ∨ env.kindOf x = some .cell ∧ env.func.isSome = true)
    (c : ∀ Z' s', LeZ Z Z' → LS s₀ T' Z' env ((x, .fz d) :: ρ) s' → wpAny (model prog w) A (execs rest env) Q E s') (hs : swapsWith e (some (.Name x np)) pos.line env = pure false := by rfl) : wpAny (model prog w) A (execs (.Assign [.Name x np] e pos :: rest) env) Q E s :=
  wpAny_execs_cons (wpAny_Assign_Name (wpAny_mono h (fun v s₁ q => by
    obtain ⟨Z₁, l₁, L₁, r₁⟩ := q
    exact L₁.pre.store (sl := .fz d) hx r₁ fun s' st p' _ => c Z₁ s' l₁ (L₁.stp st p')) fun _ _ x => x) hs)
/-- a test that is false -/
theorem LS.cond {t : Expr} {b rest : List Stmt} {pos : Pos} {Q : Flow → Shared → Prop} (L : LS s₀ T Z env ρ s) (r : Room A k) (h : Tr prog w Z k env ρ t false) (c : ∀ Z' s', LeZ Z Z' → LS s₀ T Z' env ρ s' → wpAny (model prog w) A (execs rest env) Q E s') : wpAny (model prog w) A (execs (.If t b [] pos :: rest) env) Q E s :=
  L.step r (X1.cond h (fun h => nomatch h) fun _ => Ex.nil') c
end
/-- the end: nothing that stood has changed but for tables -/
theorem LS.oldK {s₀ s : Shared} {T : List Addr} {Z : Fz} {env : Env} {ρ : PEnv} (L : LS s₀ T Z env ρ s) (hT : ∀ b ∈ T, s₀.heap.get? b = some (X.tableObj #[]) ∧ isCodeTable s₀.heap b) : OldK s₀.heap s.heap := by
  refine ⟨fun b o e => ?_, fun b o e => ?_⟩
  · by_cases t : Tb o
    · rcases L.tabs b o e t with ⟨_, q⟩ | ⟨h, ps, q⟩
      · exact .inl q
      · obtain ⟨e', ct⟩ := hT b h
        rw [e] at e'; cases e'
        exact .inr (.inl ⟨ct, rfl, #[], ps, rfl, by rw [q]; simp [X.tableObj]⟩)
    · exact .inl (L.pre.snap.get (snapZ_some e t))
  · by_cases t : Tb o
    · rcases L.tabs b o e t with ⟨_, q⟩ | ⟨h, ps, q⟩ <;> exact ⟨_, q⟩
    · exact ⟨o, L.pre.snap.get (snapZ_some e t)⟩
end Mq
set_option tactic.hygienic false
namespace Mq
open PySem PySem.Spec PySem.Calls PyProof.Rows PySem.W
section
variable {prog : Program} {w : World} {A : Around} {E : Value → Shared → Prop} {s : Shared}
/-- a call of a class of one's own, the arguments reckoned -/
theorem callWith_own {pos : Pos} {C : Addr} {args : List (Bool × Sem Value)} {Q : Value → Shared → Prop} (hst : args.any (·.1) = false)
    (h : wpAny (model prog w) A (evalArgs (.ref C) true args []) (fun x s₁ => Makes (model prog w) s₁.heap C ∧ wpAny (model prog w) A (call (.ref C) x.pos x.kw) Q E s₁) E s) : wpAny (model prog w) A (callWith pos (.ref C) [] args []) Q E s := by
  unfold callWith
  refine wpAny_bind (wpAny_holding (wpAny_mono h (fun x s₁ h₁ => wpAny_bind (wpAny_standAt ?_)) fun _ _ x => x))
  obtain ⟨Y, hc⟩ := h₁
  obtain ⟨oc, od, cd, sl, hC, _⟩ := Y.obj
  simp only [hst, List.any_nil, Bool.or_false]
  refine wpAny_bind (m := keeperOf (.ref C)) ?_
  unfold keeperOf
  refine wpAny_bind (wpAny_load hC ?_)
  refine wpAny_bind (Y.call.here ?_)
  rw [if_pos (by rfl)]
  refine wpAny_pure ?_
  exact wpAny_bind (wpAny_mono hc (fun r s₂ hr => wpAny_bind (wpAny_holding (wpAny_point (wpAny_pure hr)))) fun _ _ x => x)
end
theorem KInfo.makes {prog : Program} {w w' : World} {Z Z₁ : Fz} {C N md f0 f1 f2 f3 f4 f5 cm : Addr} {on : Obj} {es : Array DictEntry} {v0 : Value} {h : Heap} (KI : KInfo w Z C v0 N md f0 f1 f2 f3 f4 f5 cm on es) (hle : LeZ Z Z₁) (hi : InH Z₁ h) : Makes (model prog w') h C := by
  obtain ⟨q, sub, col, y0, y1, y2, y3, y5, hC⟩ := KI.cls
  exact makes_cls (hi.get (hle _ _ hC)) rfl rfl rfl rfl
/-- `key(e)` -/
theorem Ev.key {w : World} {Z0 : Fz} {k : Nat} {env : Env} {ρ : PEnv} {mg mb : Str → Option Value} {C N md f0 f1 f2 f3 f4 f5 cm : Addr} {on : Obj} {es : Array DictEntry} {v0 : Value} {fx : Str} {np pos : Pos} {e : Expr} {n : Int} (B : Base Z0 mg mb) (KI : KInfo w Z0 C v0 N md f0 f1 f2 f3 f4 f5 cm on es) (hk : 5 ≤ k) (hf : Ev prg w Z0 k env ρ (.Name fx np) (.val (.ref C))) (ha : Ev prg w Z0 k env ρ e (.int n))
    (he : ∀ pos, backTo pos (starEach [e] env) = (false, eval e env) :: backTo pos (starEach [] env) := by intro _; rfl) (hev : starEach [e] env = (false, eval e env) :: starEach [] env := by rfl) (hp : ∀ pos, (backTo pos (starEach [e] env)).any (·.1) = false := by intro _; rfl) : Ev prg w Z0 k env ρ (.Call (.Name fx np) [e] [] pos) (.abs (KInst C n)) := fun S Z s A E r p => by
  refine wpAny_Call_NameR (wpAny_mono (hf S Z s A E r p) (fun v s₁ h₁ => ?_) fun _ _ x => x)
  obtain ⟨Z₁, e₁, r₁⟩ := h₁
  obtain rfl := r₁.isVal
  have p₁ := p.ext e₁
  refine callWith_own (hp pos) ?_
  have := (Evs.cons ha Evs.nil hev).run S Z₁ s₁ A E pos r p₁
  rw [he pos] at this ⊢
  refine evalArgs_plain (wpAny_mono this (fun vs s₂ h₂ => ?_) fun _ _ x => x)
  obtain ⟨Z₂, e₂, r₂⟩ := h₂
  have p₂ := p₁.ext e₂
  refine ⟨KI.makes p₂.base p₂.fin, ?_⟩
  obtain ⟨_, rfl, x1⟩ := r₂.one_inv
  exact wpAny_mono (((op_key (B.mono p₂.base) (.refl _) (KI.mono p₂.base) x1).le hk) s₂ A E r p₂.fin) (fun _ _ q => q.ext (e₁.trans e₂)) fun _ _ x => x
theorem Fn.base {prog : Program} {w : World} {Z0 Z1 : Fz} {k : Nat} {f : Value} {ds : List PV} {d : PV} (h : Fn prog w Z0 k f ds d) (hle : LeZ Z0 Z1) : Fn prog w Z1 k f ds d := fun Z s A vs r hb hi hr => h Z s A vs r (hle.trans hb) hi hr
section
variable {w : World} {mg mb : Str → Option Value} {s₀ s : Shared} {T : List Addr} {Z : Fz} {env : Env} {ρ : PEnv} {A : Around} {E : Value → Shared → Prop}
/-- a call of a top function whose first argument is reckoned apart -/
theorem ls_call {k : Nat} {fx : Str} {np pos : Pos} {f : Addr} {e : Expr} {rest : List Expr} {o : Obj} {fd : FuncData} {Q : Value → Shared → Prop} (L : LS s₀ T Z env ρ s) (r : Room A k) (hf : Ev prg w Z k env ρ (.Name fx np) (.val (.ref f))) (ho : Z f = some o) (hfd : o.data = .func fd)
    (h : ∀ Z₁ s₁, LeZ Z Z₁ → LS s₀ T Z₁ env ρ s₁ → wpAny (model prg w) A (eval e env) (fun v s₂ => wpAny (model prg w) A (spliced (backTo pos (starEach rest env))) (fun vs s₃ => (∃ Z₃, LeZ Z Z₃ ∧ InH Z₃ s₃.heap) ∧ wpAny (model prg w) A (call (.ref f) (v :: vs)) Q E s₃) E s₂) E s₁)
    (he : ∀ pos, backTo pos (starEach (e :: rest) env) = (false, eval e env) :: backTo pos (starEach rest env) := by intro _; rfl) (hev : starEach (e :: rest) env = (false, eval e env) :: starEach rest env := by rfl) :
    wpAny (model prg w) A (eval (.Call (.Name fx np) (e :: rest) [] pos) env) Q E s := by
  refine wpAny_Call_NameR (wpAny_mono (hf _ Z s A E r L.pre.toPre) (fun v s₁ h₁ => ?_) fun _ _ x => x)
  obtain ⟨Z₁, e₁, r₁⟩ := h₁
  obtain rfl := r₁.isVal
  refine callWith_function (o := o) (fd := fd) ?_
  have := wpAny_items_cons (pos := pos) (Q := fun vs s₃ => (∃ Z₃, LeZ Z Z₃ ∧ InH Z₃ s₃.heap) ∧ wpAny (model prg w) A (call (.ref f) vs) Q E s₃) (h Z₁ s₁ e₁.le (L.ext e₁)) hev
  rw [he pos] at this ⊢
  refine evalArgs_plain (wpAny_mono this (fun vs s₂ h₂ => ?_) fun _ _ x => x)
  obtain ⟨⟨Z₃, l₃, i₃⟩, hc⟩ := h₂
  exact ⟨⟨i₃.get (l₃ _ _ ho), hfd⟩, hc⟩
/-- the list of readings -/
theorem cut_len : ∀ l : List Int, (cut l).length ≤ l.length
  | [] => Nat.le_refl _
  | a :: l => by
    have := cut_len l
    have e : cut (a :: l) = readStep (cut l) a := rfl
    have := readStep_len (cut l) a
    rw [e, List.length_cons]; (first | exact ar308 (by assumption) this | (first | lia | omega))
theorem ev_readings {p1 p2 p6 p8 : Pos} {e1 e2 e3 : Expr} {rs : List Rule} {row packed : List Int} (K : Kit w Z mg mb) (L : LS s₀ T Z env ρ s) (r : Room A 60) (hT : 82 ∉ T) (h82 : s₀.heap.get? 82 = some (X.tableObj #[])) (P : Places rs row packed) (hlen : rs.length ≤ 8) (hrow : row.length ≤ 400) (hpk : packed.length ≤ 400)
    (hk1 : env.kindOf "reduce" = some .globalImplicit) (hk2 : env.kindOf "_law_reader" = some .globalImplicit) (h1 : Ev prg w Z 60 env ρ e1 (pairsP rs)) (h2 : ∀ Z', LeZ Z Z' → Ev prg w Z' 60 env ρ e2 (.list (pInts packed.reverse))) (h3 : ∀ Z', LeZ Z Z' → Ev prg w Z' 60 env ρ e3 (.list []))
    (s1 : starEach [e1] env = (false, eval e1 env) :: starEach [] env) (s2 : starEach [e2, e3] env = (false, eval e2 env) :: starEach [e3] env) (s3 : starEach [e3] env = (false, eval e3 env) :: starEach [] env) (s4 : starEach (.Call (.Name "_law_reader" p2) [e1] [] p6 :: [e2, e3]) env = (false, eval (.Call (.Name "_law_reader" p2) [e1] [] p6) env) :: starEach [e2, e3] env) :
    wpAny (model prg w) A (eval (.Call (.Name "reduce" p1) [.Call (.Name "_law_reader" p2) [e1] [] p6, e2, e3] [] p8) env) (fun v s₁ => ∃ Z₁, LeZ Z Z₁ ∧ LS s₀ (82 :: T) Z₁ env ρ s₁ ∧ Rep Z₁ v (.list (pLists (sufReads rs packed)))) E s := by
  have bk : ∀ {x : Expr} {xs : List Expr}, starEach (x :: xs) env = (false, eval x env) :: starEach xs env → ∀ pos, backTo pos (starEach (x :: xs) env) = (false, eval x env) :: backTo pos (starEach xs env) := fun h pos => by rw [h]; rfl
  refine ls_call (rest := [e2, e3]) L r (Ev.globV K.base (K.gl rfl) hk1) (K.topT 30 _ rfl rfl) rfl (fun Z₁ s₁ l₁ L₁ => ?_) (bk s4) s4
  have K₁ := K.mono l₁
  have h1' : Ev prg w Z₁ 60 env ρ e1 (pairsP rs) := fun S Z s A E r p => h1 S Z s A E r ⟨l₁.trans p.base, p.fin, p.snap, p.kind, p.gl, p.bl, p.ns, p.vars⟩
  refine ls_call (rest := []) L₁ r (Ev.globV K₁.base (K₁.gl rfl) hk2) (K₁.topT 87 _ rfl rfl) rfl (fun Z₂ s₂ l₂ L₂ => ?_) (bk s1) s1
  have h1'' : Ev prg w Z₂ 60 env ρ e1 (pairsP rs) := fun S Z s A E r p => h1' S Z s A E r ⟨l₂.trans p.base, p.fin, p.snap, p.kind, p.gl, p.bl, p.ns, p.vars⟩
  refine wpAny_mono (h1'' _ Z₂ s₂ A E r L₂.pre.toPre) (fun v s₃ q => ?_) fun _ _ x => x
  obtain ⟨Z₃, e₃, rv⟩ := q
  have L₃ := L₂.ext e₃
  refine wpAny_items_nil ⟨⟨Z₃, l₂.trans e₃.le, e₃.fin⟩, ?_⟩
  have K₂ := K₁.mono l₂
  refine wpAny_call (codeAny_mono (code_reader K₂ rs P.ok hlen (r.le (by decide)) e₃.le e₃.fin (L₃.table h82 (Tb.table _) hT) rv) fun res s₄ q => ?_)
  obtain ⟨g, Z₄, ps, go, fd, rfl, m, hps, hgo, hfd, hF⟩ := q
  have L₄ := L₃.mv m (L₃.table h82 (Tb.table _) hT) hps
  have l₄ : LeZ Z Z₄ := l₁.trans (l₂.trans (e₃.le.trans m.le))
  have K₄ := K.mono l₄
  refine wpAny_mono ((Evs.cons (h2 Z₄ l₄) (Evs.cons (h3 Z₄ l₄) Evs.nil s3) s2).run _ Z₄ s₄ A E p8 r L₄.pre.toPre) (fun vs s₅ q => ?_) fun _ _ x => x
  obtain ⟨Z₅, e₅, r₅⟩ := q
  refine ⟨⟨Z₅, l₄.trans e₅.le, e₅.fin⟩, ?_⟩
  have hpl : (pInts packed.reverse).length = packed.length := by simp [pInts]
  have red := fn_reduce K₄ 31 hgo hfd (pInts packed.reverse) (fun i => .list (pLists ((packed.reverse.take i).foldl (readOf rs) []))) [] rfl (fun i x hx => ?_)
  · refine wpAny_mono ((red.le (k' := 60) (by decide)).call r e₅.le e₅.fin (.cons (.val _) r₅)) (fun v s₆ q => ?_) fun _ _ x => x
    obtain ⟨Z₆, e₆, r₆⟩ := q
    refine ⟨Z₆, l₄.trans (e₅.le.trans e₆.le), (L₄.ext e₅).ext e₆, ?_⟩
    rw [hpl, ← List.length_reverse (as := packed), List.take_length, suf_fold] at r₆
    exact r₆
  · have hx' : packed.reverse[i]? = some (match x with | .int n => n | _ => 0) ∧ ∃ n, x = .int n := by
      rw [pInts, List.getElem?_map] at hx
      cases q : packed.reverse[i]? with
      | none => rw [q] at hx; cases hx
      | some n => rw [q] at hx; cases hx; exact ⟨rfl, _, rfl⟩
    obtain ⟨hx1, n, rfl⟩ := hx'
    replace hx1 : packed.reverse[i]? = some n := hx1
    have hn : n ∈ packed := by have := List.mem_of_getElem? hx1; simpa using this
    have hi : i < packed.length := by have := (List.getElem?_eq_some_iff.mp hx1).1; simpa using this
    have hst : (packed.reverse.take (i + 1)).foldl (readOf rs) [] = readOf rs ((packed.reverse.take i).foldl (readOf rs) []) n := by
      rw [List.take_add_one, hx1, List.foldl_append]; rfl
    show Fn prg w Z₄ 31 (.ref g) [.list (pLists ((packed.reverse.take i).foldl (readOf rs) [])), .int n] (.list (pLists ((packed.reverse.take (i + 1)).foldl (readOf rs) [])))
    rw [hst]
    refine hF _ n ?_ ?_ (P.low n hn)
    · rw [suf_take, sufReads_len, List.length_drop]; (first | exact ar309 hpk | (first | lia | omega))
    · rw [suf_take, sufReads_head]
      have h1 := cut_len (lettersOf rs rs.length (packed.drop (packed.length - i)))
      have h2 := congrArg List.length (P.split_eq (packed.length - i))
      rw [List.length_append] at h2
      (first | exact ar310 hrow h1 h2 | (first | lia | omega))
end
end Mq
set_option tactic.hygienic false
namespace Mq
open PySem PySem.Spec PySem.Calls PyProof.Rows PySem.W
theorem Ev.base {prog : Program} {w : World} {Z0 Z1 : Fz} {k : Nat} {env : Env} {ρ : PEnv} {e : Expr} {d : PV} (h : Ev prog w Z0 k env ρ e d) (hle : LeZ Z0 Z1) : Ev prog w Z1 k env ρ e d := fun S Z s A E r p => h S Z s A E r ⟨hle.trans p.base, p.fin, p.snap, p.kind, p.gl, p.bl, p.ns, p.vars⟩
section
variable {w : World} {mg mb : Str → Option Value} {s₀ s : Shared} {T : List Addr} {Z : Fz} {env : Env} {ρ : PEnv} {A : Around} {E : Value → Shared → Prop}
theorem ev_cmpkey {p1 p2 p4 p5 : Pos} {e1 : Expr} {RR : List (List Int)} (K : Kit w Z mg mb) (L : LS s₀ T Z env ρ s) (r : Room A 150) (hT : 89 ∉ T) (hT' : 16 ∉ T) (h89 : s₀.heap.get? 89 = some (X.tableObj #[])) (h16 : s₀.heap.get? 16 = some (X.tableObj #[])) (hsm : ∃ o, Z sysModules = some o) (hcs : ∃ o, Z cStatics = some o ∧ nsLook "thirdparty.any" o = pure none)
    (hlen : RR.length ≤ 500) (hne : ∀ l ∈ RR, l ≠ []) (hl5 : ∀ l ∈ RR, l.length ≤ 1000) (hk1 : env.kindOf "cmp_to_key" = some .globalImplicit) (hk2 : env.kindOf "_law_comparing" = some .globalImplicit) (h1 : Ev prg w Z 150 env ρ e1 (.list (pLists RR)))
    (s1 : starEach [e1] env = (false, eval e1 env) :: starEach [] env) (s4 : starEach [.Call (.Name "_law_comparing" p2) [e1] [] p4] env = (false, eval (.Call (.Name "_law_comparing" p2) [e1] [] p4) env) :: starEach [] env) :
    wpAny (model prg w) A (eval (.Call (.Name "cmp_to_key" p1) [.Call (.Name "_law_comparing" p2) [e1] [] p4] [] p5) env) (fun v s₁ => ∃ Z₁ C g go fd, LeZ Z Z₁ ∧ LS s₀ (16 :: 89 :: T) Z₁ env ρ s₁ ∧ v = .ref C ∧ KCls w Z₁ C (.ref g) ∧ Z₁ g = some go ∧ go.data = .func fd ∧
      ∀ (i j : Nat) l m, RR[i]? = some l → RR[j]? = some m → Fn prg w Z₁ 21 (.ref g) [.int (i : Int), .int (j : Int)] (.int (cmpOf l m))) E s := by
  have bk : ∀ {x : Expr} {xs : List Expr}, starEach (x :: xs) env = (false, eval x env) :: starEach xs env → ∀ pos, backTo pos (starEach (x :: xs) env) = (false, eval x env) :: backTo pos (starEach xs env) := fun h pos => by rw [h]; rfl
  refine ls_call (rest := []) L r (Ev.globV K.base (K.gl rfl) hk1) (K.topT 21 _ rfl rfl) rfl (fun Z₁ s₁ l₁ L₁ => ?_) (bk s4) s4
  have K₁ := K.mono l₁
  refine ls_call (rest := []) L₁ r (Ev.globV K₁.base (K₁.gl rfl) hk2) (K₁.topT 94 _ rfl rfl) rfl (fun Z₂ s₂ l₂ L₂ => ?_) (bk s1) s1
  refine wpAny_mono ((h1.base (l₁.trans l₂)) _ Z₂ s₂ A E r L₂.pre.toPre) (fun v s₃ q => ?_) fun _ _ x => x
  obtain ⟨Z₃, e₃, rv⟩ := q
  have L₃ := L₂.ext e₃
  refine wpAny_items_nil ⟨⟨Z₃, l₂.trans e₃.le, e₃.fin⟩, ?_⟩
  have K₂ := K₁.mono l₂
  refine wpAny_call (codeAny_mono (code_comparing K₂ RR hlen hne hl5 (r.le (by decide)) e₃.le e₃.fin (L₃.table h89 (Tb.table _) hT) rv) fun res s₄ q => ?_)
  obtain ⟨g, Z₄, ps, go, fd, rfl, m, hps, hgo, hfd, hF⟩ := q
  have L₄ := L₃.mv m (L₃.table h89 (Tb.table _) hT) hps
  have l₄ : LeZ Z Z₄ := l₁.trans (l₂.trans (e₃.le.trans m.le))
  have K₄ := K.mono l₄
  refine wpAny_items_nil ⟨⟨Z₄, l₄, m.fin⟩, ?_⟩
  have t16 := L₄.table h16 (Tb.table _) (by simp [hT'])
  refine wpAny_call (codeAny_mono (code_cmpkey (v := .ref g) K₄ r (.refl _) m.fin t16 (let ⟨o, h⟩ := hsm; ⟨o, l₄ _ _ h⟩) (let ⟨o, h, h'⟩ := hcs; ⟨o, l₄ _ _ h, h'⟩)) fun res s₅ q => ?_)
  obtain ⟨C, Z₅, ps', rfl, m', hps', KC⟩ := q
  exact ⟨Z₅, C, g, go, fd, l₄.trans m'.le, L₄.mv m' t16 hps', rfl, KC, m'.le _ _ hgo, hfd, fun i j l m hl hm => (hF i j l m hl hm).base m'.le⟩
/-- a name takes a value of which more is known -/
theorem LS.assignG {prog : Program} {x : Str} {np pos : Pos} {e : Expr} {T' : List Addr} {rest : List Stmt} {Q : Flow → Shared → Prop} {P : Fz → PV → Prop} (h : wpAny (model prog w) A (eval e env) (fun v s₁ => ∃ Z₁ d, LeZ Z Z₁ ∧ LS s₀ T' Z₁ env ρ s₁ ∧ Rep Z₁ v d ∧ P Z₁ d) E s) (hx : env.kindOf x = some .local ∨ env.kindOf x = some .cell ∧ env.func.isSome = true)
    (c : ∀ Z₁ d s', P Z₁ d → LeZ Z Z₁ → LS s₀ T' Z₁ env ((x, .fz d) :: ρ) s' → wpAny (model prog w) A (execs rest env) Q E s') (hs : swapsWith e (some (.Name x np)) pos.line env = pure false := by rfl) : wpAny (model prog w) A (execs (.Assign [.Name x np] e pos :: rest) env) Q E s :=
  wpAny_execs_cons (wpAny_Assign_Name (wpAny_mono h (fun v s₁ q => by
    obtain ⟨Z₁, d, l₁, L₁, r₁, hP⟩ := q
    exact L₁.pre.store (sl := .fz d) hx r₁ fun s' st p' _ => c Z₁ d s' hP l₁ (L₁.stp st p')) fun _ _ x => x) hs)
end
/-- into the law's own frame -/
theorem law_enter {prog : Program} {w : World} {Z0 : Fz} {k : Nat} {mg mb : Str → Option Value} {f : Addr} {o : Obj} {fd : FuncData} {body : List Stmt} {names : List Str} {ds : List PV} (B : Base Z0 mg mb) (ho : Z0 f = some o) (hdata : o.data = .func fd) (hcd : ∀ h, InH Z0 h → h.CodeRec fd.code fd.qualname)
    (hbody : fd.body = .stmts body) (hclo : fd.closure = []) (hlen : names.length = ds.length) (hbind : ∀ vs, vs.length = ds.length → bindArgs fd ⟨vs, []⟩ = pure (names.zip vs)) (hnd : names.Nodup)
    (hkind : ∀ x ∈ names, fd.scope.names.lookup x = some .local ∨ fd.scope.names.lookup x = some .cell) (hgl : fd.globals = mainGlobals) (hbl : fd.builtins = builtinsNs)
    {Z : Fz} {s : Shared} {A : Around} {vs : List Value} {R : Result → Shared → Prop} (r : Room A (k + 1)) (hb : LeZ Z0 Z) (hi : InH Z s.heap) (hr : RepL Z vs ds)
    (hB : ∀ L s₁ E, Room (A.deeper (callEnvC fd L f)) k → LS s [] Z (callEnvC fd L f) (names.zip (ds.map .fz)) s₁ → wpAny (model prog w) (A.deeper (callEnvC fd L f)) (execs body (callEnvC fd L f)) (fun fl s' => R (.ok (.ret (match fl with | .ret v => v | _ => .none))) s') E s₁)
    (hco : fd.scope.isCoroutine = false := by rfl) (hgen : fd.scope.isGenerator = false := by rfl) (hk : fd.scope.kind = .function := by rfl) : codeAny (model prog w) A (.call (.ref f) ⟨vs, []⟩) R s := by
  have h0 : InH Z0 s.heap := hi.of_le hb
  have hvl := hr.length
  refine codeAny_call_cells (by have := r.depth; (first | exact ar35 this | (first | lia | omega))) (hi.get (hb _ _ ho)) hdata (B.lim _ h0) (hcd _ h0) hbody (hbind vs hvl) hclo (fun x hx => ?_) (fun s₁ c => ?_) hco hgen hk
  · have hm : x.1 ∈ names := (List.of_mem_zip (a := x.1) (b := x.2) hx).1
    rcases hkind _ hm with q | q
    · exact .inl q
    · exact .inr ⟨q, cellsFrom_some _ _ _ (.inl q)⟩
  · have hkeep := c.toInCall.keep
    have hLn : s.heap.get? s.heap.objs.size = none := get?_size _
    have hnz : ((names.zip vs).map (·.1)).Nodup := by rw [List.map_fst_zip (by (first | exact ar36 hlen hvl | (first | lia | omega)))]; exact hnd
    have fresh : ∀ (F : Fz), InH F s.heap → ∀ a, s.heap.objs.size ≤ a → F a = none := fun F hF a ha => hF.off (Heap.get?_none_of_le ha)
    have hkp := (Old.of hkeep).kp
    have hsn : InH (snapZ s.heap) s.heap := snapZ_in _
    have p : PreS Z (snapZ s.heap) Z (callEnvC fd s.heap.objs.size f) (names.zip (ds.map .fz)) s₁ := by
      refine ⟨⟨.refl _, hi.keeps hkp, hsn.keeps hkp, hk, hgl, hbl, ⟨_, c.toInCall.ns⟩, fun x sl hx => ?_⟩, hsn.off hLn, fresh Z hi _ (Nat.le_refl _), fun x hx _ => ?_, fun x y a hx _ hxa hya => ?_⟩
      · obtain ⟨v, d', h1, rfl, h2⟩ := zip_lookup hr hx
        refine ⟨v, ?_, h2⟩
        have hm : x ∈ names := (List.of_mem_zip h1).1
        rcases hkind _ hm with q | q
        · exact .inl ⟨q, _, c.toInCall.ns, bindL_mem hnz h1 q⟩
        · obtain ⟨a, ha⟩ := Option.isSome_iff_exists.mp (cellsFrom_some fd.scope.names (s.heap.objs.size + 1) [] (.inl q))
          refine .inr ⟨.inl q, a, ha, ?_⟩
          have := c.cell x a ha
          rwa [bindC_mem hnz h1 (by rw [show (callEnvC fd s.heap.objs.size f).kindOf x = some .cell from q]; decide)] at this
      · obtain ⟨a, ha⟩ := Option.isSome_iff_exists.mp (cellsFrom_some fd.scope.names (s.heap.objs.size + 1) [] (.inl hx))
        have hlt := c.above x a (mem_of_lookup ha)
        have hlt' : s.heap.objs.size ≤ a := Nat.le_of_lt hlt
        exact ⟨a, _, ha, fresh _ hsn a hlt', fresh Z hi a hlt', c.cell x a ha⟩
      · exact name_of_addr c.apart (mem_of_lookup hxa) (mem_of_lookup hya)
    refine hB s.heap.objs.size s₁ _ (r.deeper _) ⟨p, ?_, fun b x e t => .inl ⟨by simp, hkeep b x e⟩⟩
    obtain ⟨h₁, t₁, rfl⟩ := c.toInCall.same
    exact ⟨_, _, rfl⟩
end Mq
set_option tactic.hygienic false
namespace Mq
open PySem PySem.Spec PySem.Calls PyProof.Rows PySem.W
variable {w : World} {Z0 : Fz} {mg mb : Str → Option Value}
noncomputable def lawFd (w : World) : FuncData := match (hK w).lookup 106 with
  | some o => match o.data with
    | .func fd => fd
    | _ => { name := "", qualname := "", params := default, body := .stmts [], scope := default, globals := 0, closure := [], closureTuple := .none, defaults := .none, kwdefaults := .none, annotations := none, pyModule := .none, code := .none, builtins := 0 }
  | none => { name := "", qualname := "", params := default, body := .stmts [], scope := default, globals := 0, closure := [], closureTuple := .none, defaults := .none, kwdefaults := .none, annotations := none, pyModule := .none, code := .none, builtins := 0 }
noncomputable def lawSt (w : World) (i : Nat) : Stmt := match (lawFd w).body with
  | .stmts b => b.getD i (.Pass default)
  | _ => .Pass default
noncomputable def lawEnv (w : World) (L : Addr) : Env := callEnvC (lawFd w) L 106
theorem law_body (w : World) : (lawFd w).body = .stmts [lawSt w 0, lawSt w 1, lawSt w 2, lawSt w 3, lawSt w 4, lawSt w 5, lawSt w 6, lawSt w 7, lawSt w 8, lawSt w 9, lawSt w 10, lawSt w 11, lawSt w 12] := rfl
variable {k : Nat} {L : Addr} {Z : Fz}
theorem st0 (K : Kit w Z mg mb) (ns : List Int) (hn : ns.length ≤ 1000) : X1 prg w Z k (lawEnv w L) [("script", .fz (.list (pInts ns)))] (lawSt w 0) [("numbers", .fz (.list (pInts (ns.take 12)))), ("script", .fz (.list (pInts ns)))] := by
  refine X1.assign (d := .list (pInts (ns.take 12))) (Ev.callT (ds := [.list (pInts (ns.take 12))]) (Ev.globV K.base (K.bl rfl rfl)) (Evs.cons (Ev.slice (lo := none) (hi := some 12) (st := none) (Ev.name rfl) PartEv.no (PartEv.so Ev.int) PartEv.no (by decide) (by simp [pInts]; (first | exact ar26 hn | (first | lia | omega))) fun Z vs rr => ?_) Evs.nil) fun Z vs _ hr => ?_) (.inl rfl)
  · have := pick_upto (y := 12) rr (by decide)
    rw [show pInts (ns.take 12) = (pInts ns).take (12 : Int).toNat by simp [pInts]]
    exact this
  · obtain ⟨_, rfl, x1⟩ := hr.one_inv
    exact op_list x1 (by simp [pInts]; (first | exact ar311 | (first | lia | omega)))
end Mq
set_option tactic.hygienic false
namespace Mq
open PySem PySem.Spec PySem.Calls PyProof.Rows PySem.W
variable {w : World} {Z0 : Fz} {mg mb : Str → Option Value}
variable {k : Nat} {L : Addr} {Z : Fz} {ρ : PEnv}
abbrev Has (ρ : PEnv) (x : Str) (d : PV) : Prop := ρ.lookup x = some (.fz d)
theorem st1 (K : Kit w Z mg mb) (N : List Int) (hn : N.length ≤ 12) (hk : 1 ≤ k) (h1 : Has ρ "numbers" (.list (pInts N))) : X1 prg w Z k (lawEnv w L) ρ (lawSt w 1) (("row", .fz (.list (pInts (rowOf N)))) :: ρ) :=
  X1.assign (Ev.callF (Ev.globV K.base (K.gl rfl)) (Evs.cons (Ev.name h1) Evs.nil) (K.topT 49 _ rfl rfl) rfl ((fn_row K N hn).le hk)) (.inl rfl)
/-- the rules and the packed row -/
noncomputable def rulesOf (N : List Int) : List Rule := (rulesAt N (rowOf N) 4).1
noncomputable def packedOf (N : List Int) : List Int := (rulesAt N (rowOf N) 4).2
theorem rowOf_len (N : List Int) : (rowOf N).length = N.length + 15 := by simp [rowOf, tailNs]
theorem st2 (K : Kit w Z mg mb) (N : List Int) (hn : N.length ≤ 12) (hk : 30 ≤ k) (h1 : Has ρ "numbers" (.list (pInts N))) (h2 : Has ρ "row" (.list (pInts (rowOf N)))) :
    X1 prg w Z k (lawEnv w L) ρ (lawSt w 2) (("packed", .fz (.list (pInts (packedOf N)))) :: ("rules", .fz (.list ((rulesOf N).map Rule.pv))) :: ρ) := by
  have hl := rowOf_len N
  exact X1.assignTup (d := .tup [.list ((rulesOf N).map Rule.pv), .list (pInts (packedOf N))]) (Ev.callF (Ev.globV K.base (K.gl rfl)) (Evs.cons (Ev.name h1) (Evs.cons (Ev.name h2) Evs.nil)) (K.topT 66 _ rfl rfl) rfl ((fn_rules K N (rowOf N) (by (first | exact ar312 hn hl | (first | lia | omega))) (by (first | exact ar313 hn | (first | lia | omega))) fun j hj => (pinv N j (by (first | exact ar81 hj | (first | lia | omega)))).places (by (first | exact ar82 hj | (first | lia | omega)))).le hk))
    (Tg.tup (Tgs.cons (Tg.name (.inl rfl)) (Tgs.cons (Tg.name (.inl rfl)) Tgs.nil)) rfl rfl)
theorem rules_get (N : List Int) {i : Nat} {x : PV} (h : ((rulesOf N).map Rule.pv)[i]? = some x) : i < 4 ∧ x = (nextRule N i (rulesAt N (rowOf N) i).2).pv := by
  have hi : i < 4 := by
    have := (List.getElem?_eq_some_iff.mp h).1
    rw [List.length_map] at this
    unfold rulesOf at this
    rw [rulesAt_len] at this; exact this
  rw [List.getElem?_map] at h
  unfold rulesOf at h
  rw [rulesAt_get N _ 4 i hi] at h
  exact ⟨hi, (Option.some.inj h).symm⟩
theorem st3 (K : Kit w Z mg mb) (N : List Int) (hn : N.length ≤ 12) (hk : 30 ≤ k) (h1 : Has ρ "rules" (.list ((rulesOf N).map Rule.pv))) (h2 : Has ρ "row" (.list (pInts (rowOf N)))) (h3 : Has ρ "packed" (.list (pInts (packedOf N)))) :
    X1 prg w Z k (lawEnv w L) ρ (lawSt w 3) ρ := by
  have hl := rowOf_len N
  have hr4 : ((rulesOf N).map Rule.pv).length = 4 := by simp [rulesOf, rulesAt_len]
  have red := fn_reduce K 20 (f := 56) (K.topT 56 _ rfl rfl) rfl ((rulesOf N).map Rule.pv) (fun i => .list (pInts (rulesAt N (rowOf N) i).2)) (pInts (rowOf N)) rfl (fun i x hx => by
    obtain ⟨hi, rfl⟩ := rules_get N hx
    have := rulesAt_plen N (rowOf N) i
    exact fn_pack K (nextRule N i (rulesAt N (rowOf N) i).2) (rulesAt N (rowOf N) i).2 (by (first | exact ar314 hn hl this | (first | lia | omega))))
  rw [hr4] at red
  refine X1.cond (c := false) (Tr.cmp (a := .list (pInts (packedOf N))) (b := .list (pInts (packedOf N))) (Ev.callF (ds := [.val (.ref 56), .list ((rulesOf N).map Rule.pv), .list (pInts (rowOf N))]) (Ev.globV K.base (K.gl rfl)) (Evs.cons (Ev.globV K.base (K.gl rfl)) (Evs.cons (Ev.name h1) (Evs.cons (Ev.name h2) Evs.nil))) (K.topT 30 _ rfl rfl) rfl (red.le (by (first | exact ar315 hk | (first | lia | omega))))) (Ev.name h3) fun Z' v u _ h1 h2 => ?_) (fun h => nomatch h) fun _ => Ex.nil'
  have := op_ne_ints (prog := prg) (w := w) (Z0 := Z) (k := k) h1 h2 (by (first | exact ar316 hk | (first | lia | omega)))
  simpa using this
theorem st4 (K : Kit w Z mg mb) (N : List Int) (hn : N.length ≤ 12) (hk : 30 ≤ k) (h1 : Has ρ "rules" (.list ((rulesOf N).map Rule.pv))) (h2 : Has ρ "row" (.list (pInts (rowOf N)))) (h3 : Has ρ "packed" (.list (pInts (packedOf N)))) :
    X1 prg w Z k (lawEnv w L) ρ (lawSt w 4) ρ := by
  have hl := rowOf_len N
  have hr4 : ((rulesOf N).map Rule.pv).length = 4 := by simp [rulesOf, rulesAt_len]
  have hr4' : ((rulesOf N).map Rule.pv).reverse.length = 4 := by rw [List.length_reverse, hr4]
  have red := fn_reduce K 20 (f := 61) (K.topT 61 _ rfl rfl) rfl ((rulesOf N).map Rule.pv).reverse (fun i => .list (pInts (rulesAt N (rowOf N) (4 - i)).2)) (pInts (packedOf N)) rfl (fun i x hx => by
    have hi : i < 4 := by have := (List.getElem?_eq_some_iff.mp hx).1; (first | exact ar317 hr4' this | (first | lia | omega))
    rw [List.getElem?_reverse (by (first | exact ar318 hr4 hi | (first | lia | omega))), hr4] at hx
    obtain ⟨_, rfl⟩ := rules_get N hx
    have := rulesAt_plen N (rowOf N) (4 - i)
    have e := unpack_rule N (4 - 1 - i) (by (first | exact ar319 | (first | lia | omega)))
    rw [show 4 - 1 - i + 1 = 4 - i by (first | exact ar320 hi | (first | lia | omega))] at e
    have f := fn_unpack K (nextRule N (4 - 1 - i) (rulesAt N (rowOf N) (4 - 1 - i)).2) (rulesAt N (rowOf N) (4 - i)).2 (by (first | exact ar314 hn hl this | (first | lia | omega)))
    rw [e] at f
    rw [show 4 - (i + 1) = 4 - 1 - i by (first | exact ar321 | (first | lia | omega))]
    exact f)
  rw [hr4'] at red
  refine X1.cond (c := false) (Tr.cmp (a := .list (pInts (rowOf N))) (b := .list (pInts (rowOf N))) (Ev.callF (ds := [.val (.ref 61), .list ((rulesOf N).map Rule.pv).reverse, .list (pInts (packedOf N))]) (Ev.globV K.base (K.gl rfl)) (Evs.cons (Ev.globV K.base (K.gl rfl)) (Evs.cons (Ev.slice (xs := (rulesOf N).map Rule.pv) (lo := none) (hi := none) (st := some (-1)) (Ev.name h1) PartEv.no PartEv.no (PartEv.so Ev.neg1) (by decide) (by (first | exact ar322 hr4 | (first | lia | omega))) fun Z vs rr => pick_rev rr) (Evs.cons (Ev.name h3) Evs.nil))) (K.topT 30 _ rfl rfl) rfl (red.le (by (first | exact ar315 hk | (first | lia | omega))))) (Ev.name h2) fun Z' v u _ h1 h2 => ?_) (fun h => nomatch h) fun _ => Ex.nil'
  have := op_ne_ints (prog := prg) (w := w) (Z0 := Z) (k := k) h1 h2 (by (first | exact ar316 hk | (first | lia | omega)))
  simpa using this
/-- the rests -/
noncomputable def restsL (N : List Int) : List (List Int) := restsOf (sizesOf (rulesOf N)) (rowOf N) (packedOf N) (packedOf N).length
theorem packed_len (N : List Int) : (packedOf N).length ≤ (rowOf N).length := rulesAt_plen N (rowOf N) 4
theorem st5 (K : Kit w Z mg mb) (hsm : ∃ o, Z sysModules = some o) (N : List Int) (hn : N.length ≤ 12) (hk : 30 ≤ k) (h1 : Has ρ "rules" (.list ((rulesOf N).map Rule.pv))) (h2 : Has ρ "row" (.list (pInts (rowOf N)))) (h3 : Has ρ "packed" (.list (pInts (packedOf N)))) :
    X1 prg w Z k (lawEnv w L) ρ (lawSt w 5) (("rests", .fz (.list (pLists (restsL N)))) :: ρ) := by
  have hl := rowOf_len N
  have hp := packed_len N
  have P := places_of N
  exact X1.assign (Ev.callF (Ev.globV K.base (K.gl rfl)) (Evs.cons (Ev.name h2) (Evs.cons (Ev.name h3) (Evs.cons (Ev.name h1) Evs.nil))) (K.topT 73 _ rfl rfl) rfl ((fn_rests K hsm (rowOf N) (packedOf N) (rulesOf N) (by (first | exact ar323 hn hl | (first | lia | omega))) (by (first | exact ar314 hn hl hp | (first | lia | omega))) (by unfold rulesOf; rw [rulesAt_len]; (first | exact ar324 | (first | lia | omega))) P.ok.new fun j hj => ⟨P.nonneg j, P.zero_in j hj⟩).le hk)) (.inr ⟨rfl, rfl⟩)
theorem rests_len (N : List Int) : (restsL N).length = (packedOf N).length := by simp [restsL, restsOf]
theorem readings_eq (N : List Int) : sufReads (rulesOf N) (packedOf N) = (restsL N).map (· ++ [0]) := (places_of N).readings
theorem st7 (K : Kit w Z mg mb) (N : List Int) (hn : N.length ≤ 12) (hk : 30 ≤ k) (h1 : Has ρ "rests" (.list (pLists (restsL N)))) (h2 : Has ρ "readings" (.list (pLists (sufReads (rulesOf N) (packedOf N))))) :
    X1 prg w Z k (lawEnv w L) ρ (lawSt w 7) ρ := by
  have hl := rowOf_len N
  have hp := packed_len N
  have hrl := rests_len N
  have hlen : ∀ l ∈ restsL N, l.length ≤ 1000 := fun l hl' => by
    unfold restsL restsOf at hl'
    obtain ⟨i, _, rfl⟩ := List.mem_map.mp hl'
    unfold restAt
    have h1 : ∀ (f : Int → Bool) (l : List Int), (l.takeWhile f).length ≤ l.length := fun f l => by
      induction l with
      | nil => simp
      | cons a l ih => rw [List.takeWhile_cons]; split <;> simp <;> (first | exact ar325 ih | (first | lia | omega))
    have := h1 (· != 0) ((rowOf N).drop (beginAt (sizesOf (rulesOf N)) (packedOf N) i).toNat)
    rw [List.length_drop] at this
    (first | exact ar326 hn hl this | (first | lia | omega))
  refine X1.cond (c := false) (Tr.cmp (a := .list (pLists (sufReads (rulesOf N) (packedOf N)))) (b := .list (pLists ((restsL N).map (· ++ [0])))) (Ev.name h2) (Ev.comp1 (l := restsL N) (emb := fun l => .list (pInts l)) [] (fun l => [.list (pInts (l ++ [0]))]) (by rw [← List.map_eq_flatMap]; simp [pLists]) (.list _) (Ev.name h1) rfl (fun C => Cap.nil) (by simp [pLists]; (first | exact ar327 hn hl hp hrl | (first | lia | omega))) (fun C x hx => ⟨_, Tg.name (.inl rfl), AllFz.nil.cons, fun x sl h => by simp at h, .inr ⟨Trs.nil, _, rfl, ?_⟩⟩)) fun Z' v u _ h1 h2 => ?_) (fun h => nomatch h) fun _ => Ex.nil'
  · refine Ev.binop (a := .list (pInts x)) (b := .list (pInts [0])) (Ev.name rfl) (Ev.list (Evs.cons Ev.int Evs.nil)) fun Z' v u _ h1 h2 => ?_
    have := op_cat (prog := prg) (w := w) (Z0 := Z) (k := k) h1 h2 (by have := hlen x hx; simp [pInts]; (first | exact ar328 this | (first | lia | omega)))
    simpa [pInts] using this
  · have := op_ne_lists (prog := prg) (w := w) (Z0 := Z) (k := k) h1 h2 (by (first | exact ar316 hk | (first | lia | omega)))
    rw [readings_eq] at this
    simpa using this
end Mq
set_option tactic.hygienic false
namespace Mq
open PySem PySem.Spec PySem.Calls PyProof.Rows PySem.W
/-- sorted under a key -/
theorem Ev.sortedK {prog : Program} {w : World} {Z0 : Fz} {k : Nat} {env : Env} {ρ : PEnv} {fx kx : Str} {np kp p3 pos : Pos} {e : Expr} {C : Addr} {d d' : PV} (hf : Ev prog w Z0 k env ρ (.Name fx np) (.val (.builtin "sorted"))) (h1 : Ev prog w Z0 k env ρ e d) (h2 : Ev prog w Z0 k env ρ (.Name kx kp) (.val (.ref C)))
    (ho : ∀ Z v, LeZ Z0 Z → Rep Z v d → Op prog w Z0 k Z (call (.builtin "sorted") [v] [(Str.ofString "key", .ref C)]) d')
    (he : ∀ pos, backTo pos (starEach [e] env) = (false, eval e env) :: backTo pos (starEach [] env) := by intro _; rfl) (hev : starEach [e] env = (false, eval e env) :: starEach [] env := by rfl) (hp : ∀ pos, (backTo pos (starEach [e] env)).any (·.1) = false := by intro _; rfl) :
    Ev prog w Z0 k env ρ (.Call (.Name fx np) [e] [⟨some (Str.ofString "key"), .Name kx kp, p3⟩] pos) d' := fun S Z s A E r p => by
  refine wpAny_Call_Name_kw (wpAny_mono (hf S Z s A E r p) (fun v s₁ h₁ => ?_) fun _ _ x => x)
  obtain ⟨Z₁, e₁, r₁⟩ := h₁
  obtain rfl := r₁.isVal
  have p₁ := p.ext e₁
  refine callWith_kw ?_ (he pos) (hp pos) rfl rfl
  refine wpAny_mono ((Evs.cons h1 Evs.nil hev).run S Z₁ s₁ A E pos r p₁) (fun vs s₂ q => ?_) fun _ _ x => x
  obtain ⟨Z₂, e₂, r₂⟩ := q
  have p₂ := p₁.ext e₂
  obtain ⟨_, rfl, x1⟩ := r₂.one_inv
  refine kws_cons (wpAny_mono (h2 S Z₂ s₂ A E r p₂) (fun u s₃ q => ?_) fun _ _ x => x)
  obtain ⟨Z₃, e₃, r₃⟩ := q
  obtain rfl := r₃.isVal
  have p₃ := p₂.ext e₃
  refine kws_nil ?_
  exact wpAny_mono (ho Z₃ _ p₃.base (x1.mono e₃.le) s₃ A E r p₃.fin) (fun _ _ q => q.ext ((e₁.trans e₂).trans e₃)) fun _ _ x => x
/-- the rest of a place -/
noncomputable def restF (N : List Int) (i : Nat) : List Int := (restsL N).getD i []
noncomputable def orderOf (N : List Int) : List Nat := (keval (ltK (restF N)) (kas_sort (packedOf N).length)).toList
noncomputable def natsP (l : List Nat) : List Int := l.map fun (i : Nat) => (i : Int)
theorem two_places (N : List Int) : 2 ≤ (packedOf N).length := places_two N
theorem order_len (N : List Int) : (orderOf N).length = (packedOf N).length := by
  have h := (order_perm (restF N) (packedOf N).length (by have := two_places N; (first | exact ar329 this | (first | lia | omega)))).size_eq
  unfold orderOf
  rw [Array.length_toList, h]; simp
theorem order_lt (N : List Int) : ∀ i ∈ orderOf N, i < (packedOf N).length := ord_lt _ _ (by have := two_places N; (first | exact ar284 this | (first | lia | omega)))
theorem ordP_nums (N : List Int) : ordP (ltK (restF N)) (numsPV (packedOf N).length) = pInts (natsP (orderOf N)) := by
  unfold ordP
  have hl : (numsPV (packedOf N).length).length = (packedOf N).length := by simp [numsPV]
  rw [hl]
  unfold pInts natsP
  rw [List.map_map]
  refine List.map_congr_left fun i hi => ?_
  have := order_lt N i hi
  simp [numsPV, List.getD_eq_getElem?_getD, this]
theorem ordP_pairs (N : List Int) : ordP (ltP (restF N)) (pairsPV (restF N) (packedOf N).length) = (orderOf N).map (pairPV (restF N)) := by
  unfold ordP
  have hl : (pairsPV (restF N) (packedOf N).length).length = (packedOf N).length := by simp [pairsPV]
  rw [hl, orders_same _ _ (by have := two_places N; (first | exact ar329 this | (first | lia | omega)))]
  refine List.map_congr_left fun i hi => ?_
  have := order_lt N i hi
  rw [List.getD_eq_getElem?_getD, pairsPV_get this]; rfl
theorem restF_pos (N : List Int) (i : Nat) : ∀ x ∈ restF N i, 0 < x := fun x hx => by
  unfold restF restsL restsOf at hx
  by_cases h : i < (packedOf N).length
  · rw [List.getD_eq_getElem?_getD, List.getElem?_map, List.getElem?_range h] at hx
    exact rest_pos N _ x hx
  · rw [List.getD_eq_getElem?_getD, List.getElem?_eq_none (by simp; (first | exact ar108 h | (first | lia | omega)))] at hx
    cases hx
theorem reading_at (N : List Int) {i : Nat} (h : i < (packedOf N).length) : (sufReads (rulesOf N) (packedOf N))[i]? = some (restF N i ++ [0]) := by
  have hl := rests_len N
  rw [readings_eq, List.getElem?_map]
  unfold restF
  rw [List.getD_eq_getElem?_getD, List.getElem?_eq_getElem (by (first | exact ar330 h hl | (first | lia | omega)))]; rfl
theorem rest_at (N : List Int) {i : Nat} (h : i < (packedOf N).length) : (pLists (restsL N))[i]? = some (.list (pInts (restF N i))) := by
  have hl := rests_len N
  unfold restF pLists
  rw [List.getElem?_map, List.getD_eq_getElem?_getD, List.getElem?_eq_getElem (by (first | exact ar330 h hl | (first | lia | omega)))]; rfl
theorem opI_bK (l m : List Int) : opI .Lt (cmpOf l m) 0 = bK l m .Lt := rfl
theorem cmpB_bK (l m : List Int) : cmpB (cmpOf l m) = bK l m := by funext op; cases op <;> rfl
variable {w : World} {mg mb : Str → Option Value}
variable {k : Nat} {L : Addr} {Z : Fz} {ρ : PEnv} {C g M md f0 f1 f2 f3 f4 f5 cm : Addr} {on : Obj} {es : Array DictEntry} {go : Obj} {fd : FuncData}
/-- the comparison's contract -/
noncomputable def CmpFn (w : World) (Z : Fz) (g : Addr) (N : List Int) : Prop := ∀ i j : Nat, i < (packedOf N).length → j < (packedOf N).length → Fn prg w Z 21 (.ref g) [.int (i : Int), .int (j : Int)] (.int (cmpOf (restF N i ++ [0]) (restF N j ++ [0])))
theorem st9 (K : Kit w Z mg mb) (KI : KInfo w Z C (.ref g) M md f0 f1 f2 f3 f4 f5 cm on es) (hgo : Z g = some go) (hfd : go.data = .func fd) (N : List Int) (hn : N.length ≤ 12) (hF : CmpFn w Z g N) (hk : 133 ≤ k) (h1 : Has ρ "packed" (.list (pInts (packedOf N)))) (h2 : Has ρ "key" (.val (.ref C))) :
    X1 prg w Z k (lawEnv w L) ρ (lawSt w 9) (("order", .fz (.list (pInts (natsP (orderOf N))))) :: ρ) := by
  have hl := rowOf_len N
  have hp := packed_len N
  have hpl : (pInts (packedOf N)).length = (packedOf N).length := by simp [pInts]
  rw [← ordP_nums]
  refine X1.assign (Ev.sortedK (d := .range (packedOf N).length) (Ev.globV K.base (K.bl rfl rfl)) (Ev.callT (ds := [.int (packedOf N).length]) (Ev.globV K.base (K.bl rfl rfl)) (Evs.cons (Ev.callB (ds := [.list (pInts (packedOf N))]) (Ev.globV K.base (K.bl rfl rfl)) (Evs.cons (Ev.name h1) Evs.nil) fun Z' vs _ hr => ?_) Evs.nil) fun Z' vs _ hr => ?_) (Ev.name h2) fun Z' v hle hv => ?_) (.inl rfl)
  · obtain ⟨_, rfl, x1⟩ := hr.one_inv
    have := op_len (prog := prg) (w := w) (Z0 := Z) (k := k) x1 (by (first | exact ar331 hn hl hp hpl | (first | lia | omega)))
    rwa [hpl] at this
  · obtain ⟨_, rfl, x1⟩ := hr.one_inv
    have := op_range (prog := prg) (w := w) (Z0 := Z) (k := k) x1 (by (first | exact ar24 | (first | lia | omega)))
    rwa [Int.toNat_natCast] at this
  · refine (op_sorted_keys K KI hgo hfd hF (fun i j hi hj => ?_) hle hv (two_places N) (places_64 N hn)).le hk
    rw [opI_bK, ltK_key (restF_pos N i) (restF_pos N j)]; rfl
theorem st10 (K : Kit w Z mg mb) (N : List Int) (hn : N.length ≤ 12) (hk : 30 ≤ k) (h1 : Has ρ "packed" (.list (pInts (packedOf N)))) (h2 : Has ρ "order" (.list (pInts (natsP (orderOf N))))) (h3 : Has ρ "rests" (.list (pLists (restsL N)))) :
    X1 prg w Z k (lawEnv w L) ρ (lawSt w 10) ρ := by
  have hl := rowOf_len N
  have hp := packed_len N
  have hpl : (pInts (packedOf N)).length = (packedOf N).length := by simp [pInts]
  have hol := order_len N
  have hrl := rests_len N
  have hprl : (pLists (restsL N)).length = (restsL N).length := by simp [pLists]
  refine X1.cond (c := false) (Tr.cmp (a := .list (pInts (natsP (orderOf N)))) (b := .list (pInts (natsP (orderOf N)))) (Ev.name h2) (Ev.comp1 (l := orderOf N) (emb := pairPV (restF N)) [] (fun i => [.int (i : Int)]) (by rw [← List.map_eq_flatMap]; simp [pInts, natsP]) (.list _) (Ev.callB (ds := [.list (pairsPV (restF N) (packedOf N).length)]) (Ev.globV K.base (K.bl rfl rfl)) (Evs.cons ?inner Evs.nil) fun Z' vs _ hr => ?srt) rfl (fun C => Cap.nil) (by simp [pInts, natsP]; (first | exact ar327 hn hl hp hol | (first | lia | omega))) (fun C x hx => ⟨_, Tg.tup (Tgs.cons (Tg.name (.inl rfl)) (Tgs.cons (Tg.name (.inl rfl)) Tgs.nil)) rfl rfl, (AllFz.nil.cons).cons, fun x sl h => by simp at h, .inr ⟨Trs.nil, _, rfl, Ev.name rfl⟩⟩)) fun Z' v u _ h1 h2 => ?ne) (fun h => nomatch h) fun _ => Ex.nil'
  case inner =>
    refine Ev.comp1 (l := List.range (packedOf N).length) (emb := fun (i : Nat) => PV.int (i : Int)) [("rests", .fz (.list (pLists (restsL N))))] (fun i => [pairPV (restF N) i]) (by rw [← List.map_eq_flatMap]; rfl) (.range _ (by (first | exact ar332 hn hl hp | (first | lia | omega)))) (Ev.callT (ds := [.int (packedOf N).length]) (Ev.globV K.base (K.bl rfl rfl)) (Evs.cons (Ev.callB (ds := [.list (pInts (packedOf N))]) (Ev.globV K.base (K.bl rfl rfl)) (Evs.cons (Ev.name h1) Evs.nil) fun Z' vs _ hr => ?_) Evs.nil) fun Z' vs _ hr => ?_) rfl (fun C => Cap.cons Cap.nil h3 (.inl rfl) (.inl rfl) rfl) (by simp [pairsPV]; (first | exact ar333 hn hl hp | (first | lia | omega))) (fun C x hx => ⟨_, Tg.name (.inl rfl), (AllFz.nil.cons).cons, Sub.cons rfl Sub.nil, .inr ⟨Trs.nil, _, rfl, ?_⟩⟩)
    · obtain ⟨_, rfl, x1⟩ := hr.one_inv
      have := op_len (prog := prg) (w := w) (Z0 := Z) (k := k) x1 (by (first | exact ar331 hn hl hp hpl | (first | lia | omega)))
      rwa [hpl] at this
    · obtain ⟨_, rfl, x1⟩ := hr.one_inv
      have := op_range (prog := prg) (w := w) (Z0 := Z) (k := k) x1 (by (first | exact ar24 | (first | lia | omega)))
      rwa [Int.toNat_natCast] at this
    · have hx' : x < (packedOf N).length := by simpa using hx
      exact Ev.tuple (Evs.cons (Ev.sub (a := .list (pLists (restsL N))) (b := .int (x : Int)) (Ev.name rfl) (Ev.name rfl) fun Z' v u _ h1 h2 => op_item_list h1 h2 (by (first | exact ar24 | (first | lia | omega))) (by rw [Int.toNat_natCast]; exact rest_at N hx') (by (first | exact ar334 hn hl hp hrl hprl | (first | lia | omega)))) (Evs.cons (Ev.name rfl) Evs.nil))
  case srt =>
    obtain ⟨_, rfl, x1⟩ := hr.one_inv
    rw [← ordP_pairs]
    exact (op_sorted_pairs (k := 9) x1 (two_places N) (places_64 N hn) (by decide)).le (by (first | exact ar335 hk | (first | lia | omega)))
  case ne =>
    have := op_ne_ints (prog := prg) (w := w) (Z0 := Z) (k := k) h1 h2 (by (first | exact ar316 hk | (first | lia | omega)))
    simpa using this
end Mq
set_option tactic.hygienic false
namespace Mq
open PySem PySem.Spec PySem.Calls PyProof.Rows PySem.W
theorem op_cmpL {prog : Program} {w : World} {Z0 : Fz} {k : Nat} {Z : Fz} {v u : Value} {l m : List Int} {op : CmpOp} (ho : op ∈ [CmpOp.Lt, .LtE, .Eq, .NotEq, .GtE, .Gt]) (h1 : Rep Z v (.list (pInts l))) (h2 : Rep Z u (.list (pInts m))) (hk : 9 ≤ k) : Op prog w Z0 k Z (compareOp op v u) (.bool (bL l m op)) := by
  simp only [List.mem_cons, List.not_mem_nil, or_false] at ho
  rcases ho with rfl | rfl | rfl | rfl | rfl | rfl
  · exact op_cmp_ints .Lt (by simp) h1 h2 (by (first | exact ar336 hk | (first | lia | omega)))
  · exact op_cmp_ints .LtE (by simp) h1 h2 (by (first | exact ar336 hk | (first | lia | omega)))
  · exact op_eq_ints h1 h2 hk
  · exact op_ne_ints h1 h2 hk
  · exact op_cmp_ints .GtE (by simp) h1 h2 (by (first | exact ar336 hk | (first | lia | omega)))
  · exact op_cmp_ints .Gt (by simp) h1 h2 (by (first | exact ar336 hk | (first | lia | omega)))
variable {w : World} {mg mb : Str → Option Value}
variable {k : Nat} {L : Addr} {Z : Fz} {ρ : PEnv} {C g M md f0 f1 f2 f3 f4 f5 cm : Addr} {on : Obj} {es : Array DictEntry} {go : Obj} {fd : FuncData}
noncomputable def ansOf (b : CmpOp → Bool) : Str := ansText (b .Lt) (b .LtE) (b .Eq) (b .NotEq) (b .GtE) (b .Gt)
theorem fn_ansK (K : Kit w Z mg mb) (KI : KInfo w Z C (.ref g) M md f0 f1 f2 f3 f4 f5 cm on es) (hgo : Z g = some go) (hfd : go.data = .func fd) (N : List Int) (hF : CmpFn w Z g N) {i j : Nat} (hi : i < (packedOf N).length) (hj : j < (packedOf N).length) :
    Fn prg w Z 133 (.ref 101) [.abs (KInst C i), .abs (KInst C j)] (.str (ansOf (bL (restF N i) (restF N j)))) := by
  have e : ansOf (bL (restF N i) (restF N j)) = ansOf (cmpB (cmpOf (restF N i ++ [0]) (restF N j ++ [0]))) := by
    rw [cmpB_bK]; exact (ans_same (restF_pos N i) (restF_pos N j)).symm
  rw [e]
  exact fn_answers K 132 (by decide) _ _ _ fun op ho Z' v u hle hv hu => op_cmpK K KI ho hgo hfd (hF i j hi hj) hle hv hu
theorem fn_ansL (K : Kit w Z mg mb) (l m : List Int) : Fn prg w Z 10 (.ref 101) [.list (pInts l), .list (pInts m)] (.str (ansOf (bL l m))) :=
  fn_answers K 9 (by decide) _ _ _ fun op ho Z' v u hle hv hu => op_cmpL ho hv hu (by decide)
theorem nats_get (l : List Nat) {i x : Nat} (h : l[i]? = some x) : (pInts (natsP l))[i]? = some (.int (x : Int)) := by
  unfold pInts natsP
  rw [List.getElem?_map, List.getElem?_map, h]; rfl
/-- the place before, round -/
noncomputable def oneAt (N : List Int) (i : Nat) : Nat := if i = 0 then (orderOf N).getD ((packedOf N).length - 1) 0 else (orderOf N).getD (i - 1) 0
theorem order_get (N : List Int) {i : Nat} (h : i < (packedOf N).length) : (orderOf N)[i]? = some ((orderOf N).getD i 0) ∧ (orderOf N).getD i 0 < (packedOf N).length := by
  have hl := order_len N
  have e : (orderOf N)[i]? = some ((orderOf N).getD i 0) := by rw [List.getD_eq_getElem?_getD, List.getElem?_eq_getElem (by (first | exact ar330 h hl | (first | lia | omega)))]; rfl
  exact ⟨e, order_lt N _ (List.mem_of_getElem? e)⟩
theorem Sub.refl' {ρ : PEnv} : ∀ x sl, ρ.lookup x = some sl → ρ.lookup x = some sl := fun _ _ h => h
theorem st11 (K : Kit w Z mg mb) (KI : KInfo w Z C (.ref g) M md f0 f1 f2 f3 f4 f5 cm on es) (hgo : Z g = some go) (hfd : go.data = .func fd) (N : List Int) (hn : N.length ≤ 12) (hF : CmpFn w Z g N) (hk : 133 ≤ k)
    (h1 : Has ρ "order" (.list (pInts (natsP (orderOf N))))) (h2 : Has ρ "key" (.val (.ref C))) (h3 : Has ρ "rests" (.list (pLists (restsL N)))) : X1 prg w Z k (lawEnv w L) ρ (lawSt w 11) [("order", .fz (.list (pInts (natsP (orderOf N))))), ("key", .fz (.val (.ref C))), ("rests", .fz (.list (pLists (restsL N))))] := by
  have hl := rowOf_len N
  have hp := packed_len N
  have hol := order_len N
  have hrl := rests_len N
  have h2p := two_places N
  have hprl : (pLists (restsL N)).length = (restsL N).length := by simp [pLists]
  have hnl : (pInts (natsP (orderOf N))).length = (packedOf N).length := by simp [pInts, natsP, hol]
  refine X1.loop (d := .range (packedOf N).length) (.range _ (by (first | exact ar332 hn hl hp | (first | lia | omega)))) (Ev.callT (ds := [.int (packedOf N).length]) (Ev.globV K.base (K.bl rfl rfl)) (Evs.cons (Ev.callB (ds := [.list (pInts (natsP (orderOf N)))]) (Ev.globV K.base (K.bl rfl rfl)) (Evs.cons (Ev.name h1) Evs.nil) fun Z' vs _ hr => ?_) Evs.nil) fun Z' vs _ hr => ?_) (fun _ => [("order", .fz (.list (pInts (natsP (orderOf N))))), ("key", .fz (.val (.ref C))), ("rests", .fz (.list (pLists (restsL N))))]) (Sub.cons h1 (Sub.cons h2 (Sub.cons h3 Sub.nil))) (fun i x hx => ⟨_, Tg.name (.inl rfl), ?_⟩)
  · obtain ⟨_, rfl, x1⟩ := hr.one_inv
    have := op_len (prog := prg) (w := w) (Z0 := Z) (k := k) x1 (by (first | exact ar331 hn hl hp hnl | (first | lia | omega)))
    rwa [hnl] at this
  · obtain ⟨_, rfl, x1⟩ := hr.one_inv
    have := op_range (prog := prg) (w := w) (Z0 := Z) (k := k) x1 (by (first | exact ar24 | (first | lia | omega)))
    rwa [Int.toNat_natCast] at this
  · obtain ⟨hi, rfl⟩ : i < (packedOf N).length ∧ PV.int (i : Int) = x := by
      have : i < (packedOf N).length := by
        have := (List.getElem?_eq_some_iff.mp hx).1
        simpa using this
      refine ⟨this, ?_⟩
      rw [List.getElem?_map, List.getElem?_range this] at hx
      simpa using hx
    obtain ⟨eb, hb⟩ := order_get N hi
    have ha : oneAt N i < (packedOf N).length := by
      unfold oneAt
      split
      · exact (order_get N (by (first | exact ar337 h2p | (first | lia | omega)))).2
      · exact (order_get N (by (first | exact ar338 hi | (first | lia | omega)))).2
    refine Ex.cons (X1.assign (d := .int (oneAt N i : Int)) (Ev.sub (a := .list (pInts (natsP (orderOf N)))) (b := .int ((i : Int) - 1)) (Ev.name rfl) (Ev.binop (a := .int (i : Int)) (b := .int 1) (Ev.name rfl) Ev.int fun Z' v u _ h1 h2 => op_sub h1 h2) fun Z' v u _ h1 h2 => ?_) (.inl rfl)) (Ex.cons (X1.assign (d := .int (((orderOf N).getD i 0 : Nat) : Int)) (Ev.sub (a := .list (pInts (natsP (orderOf N)))) (b := .int (i : Int)) (Ev.name rfl) (Ev.name rfl) fun Z' v u _ h1 h2 => op_item_list h1 h2 (by (first | exact ar24 | (first | lia | omega))) (by rw [Int.toNat_natCast]; exact nats_get _ eb) (by (first | exact ar331 hn hl hp hnl | (first | lia | omega)))) (.inl rfl)) ?_)
    · unfold oneAt
      by_cases h0 : i = 0
      · rw [if_pos h0]
        refine op_item_list_neg h1 h2 (by (first | exact ar339 h0 | (first | lia | omega))) (by (first | exact ar340 h2p hnl | (first | lia | omega))) ?_ (by (first | exact ar331 hn hl hp hnl | (first | lia | omega)))
        rw [hnl, show ((i : Int) - 1 + ((packedOf N).length : Int)).toNat = (packedOf N).length - 1 by (first | exact ar341 h0 | (first | lia | omega))]
        exact nats_get _ (order_get N (by (first | exact ar337 h2p | (first | lia | omega)))).1
      · rw [if_neg h0]
        refine op_item_list h1 h2 (by (first | exact ar342 h0 | (first | lia | omega))) ?_ (by (first | exact ar331 hn hl hp hnl | (first | lia | omega)))
        rw [show ((i : Int) - 1).toNat = i - 1 by (first | exact ar131 | (first | lia | omega))]
        exact nats_get _ (order_get N (by (first | exact ar338 hi | (first | lia | omega)))).1
    · generalize oneAt N i = a at ha
      generalize (orderOf N).getD i 0 = b at hb
      have pt : ∀ {env : Env} {ρ : PEnv} {x : Str} {np xp sp : Pos} {j : Nat} (hr : Has ρ "rests" (.list (pLists (restsL N)))) (hx : Has ρ x (.int (j : Int))) (hj : j < (packedOf N).length) (hd : (x == ("__debug__" : Str)) = false) (hn : (x == ("__classdict__" : Str)) = false)
          (hs : ∀ o i, subscripted (.Name x xp) false (.ref o) i = operate [.ref o, i] (getItem (.ref o) i)), Ev prg w Z k env ρ (.Subscript (.Name "rests" np) (.Name x xp) sp) (.list (pInts (restF N j))) := fun {env ρ x np xp sp j} hr hx hj hd hn hs =>
        Ev.sub (a := .list (pLists (restsL N))) (b := .int (j : Int)) (Ev.name hr) (Ev.name hx hd hn) fun Z' v u _ h1 h2 => op_item_list h1 h2 (by (first | exact ar24 | (first | lia | omega))) (by rw [Int.toNat_natCast]; exact rest_at N hj) (by (first | exact ar334 (by assumption) hl hp hrl hprl | (first | lia | omega))) hs
      refine Ex.cons (X1.cond (c := false) (Tr.cmp (a := .str (ansOf (bL (restF N a) (restF N b)))) (b := .str (ansOf (bL (restF N a) (restF N b)))) (Ev.callF (ds := [.abs (KInst C a), .abs (KInst C b)]) (Ev.globV K.base (K.gl rfl)) (Evs.cons (Ev.key K.base KI (by (first | exact ar343 hk | (first | lia | omega))) (Ev.name rfl) (Ev.name rfl)) (Evs.cons (Ev.key K.base KI (by (first | exact ar343 hk | (first | lia | omega))) (Ev.name rfl) (Ev.name rfl)) Evs.nil)) (K.topT 101 _ rfl rfl) rfl ((fn_ansK K KI hgo hfd N hF ha hb).le hk))
          (Ev.callF (ds := [.list (pInts (restF N a)), .list (pInts (restF N b))]) (Ev.globV K.base (K.gl rfl)) (Evs.cons (pt rfl rfl ha (by decide) (by decide) (by intro _ _; with_unfolding_all rfl)) (Evs.cons (pt rfl rfl hb (by decide) (by decide) (by intro _ _; with_unfolding_all rfl)) Evs.nil)) (K.topT 101 _ rfl rfl) rfl ((fn_ansL K _ _).le (by (first | exact ar344 hk | (first | lia | omega))))) fun Z' v u _ h1 h2 => ?_) (fun h => nomatch h) fun _ => Ex.nil')
        (Ex.cons (X1.cond (c := false) (Tr.cmp (a := .str (ansOf (bL (restF N b) (restF N a)))) (b := .str (ansOf (bL (restF N b) (restF N a)))) (Ev.callF (ds := [.abs (KInst C b), .abs (KInst C a)]) (Ev.globV K.base (K.gl rfl)) (Evs.cons (Ev.key K.base KI (by (first | exact ar343 hk | (first | lia | omega))) (Ev.name rfl) (Ev.name rfl)) (Evs.cons (Ev.key K.base KI (by (first | exact ar343 hk | (first | lia | omega))) (Ev.name rfl) (Ev.name rfl)) Evs.nil)) (K.topT 101 _ rfl rfl) rfl ((fn_ansK K KI hgo hfd N hF hb ha).le hk))
          (Ev.callF (ds := [.list (pInts (restF N b)), .list (pInts (restF N a))]) (Ev.globV K.base (K.gl rfl)) (Evs.cons (pt rfl rfl hb (by decide) (by decide) (by intro _ _; with_unfolding_all rfl)) (Evs.cons (pt rfl rfl ha (by decide) (by decide) (by intro _ _; with_unfolding_all rfl)) Evs.nil)) (K.topT 101 _ rfl rfl) rfl ((fn_ansL K _ _).le (by (first | exact ar344 hk | (first | lia | omega))))) fun Z' v u _ h1 h2 => ?_) (fun h => nomatch h) fun _ => Ex.nil')
          (Ex.nil (Sub.cons rfl (Sub.cons rfl (Sub.cons rfl Sub.nil)))))
      · have := op_ne_str (prog := prg) (w := w) (Z0 := Z) (k := k) h1 h2 (by (first | exact ar345 hk | (first | lia | omega)))
        simpa using this
      · have := op_ne_str (prog := prg) (w := w) (Z0 := Z) (k := k) h1 h2 (by (first | exact ar345 hk | (first | lia | omega)))
        simpa using this
end Mq
set_option tactic.hygienic false
namespace Mq
open PySem PySem.Spec PySem.Calls PyProof.Rows PySem.W
variable {w : World} {mg mb : Str → Option Value}
/-- the whole law -/
theorem law_run {Z0 : Fz} {s : Shared} {A : Around} {v : Value} {ns : List Int} {R : Result → Shared → Prop} (K : Kit w Z0 mg mb) (hsm : ∃ o, Z0 sysModules = some o) (hcs : ∃ o, Z0 cStatics = some o ∧ nsLook "thirdparty.any" o = pure none) (r : Room A 161) (hi : InH Z0 s.heap)
    (h16 : s.heap.get? 16 = some (X.tableObj #[])) (h82 : s.heap.get? 82 = some (X.tableObj #[])) (h89 : s.heap.get? 89 = some (X.tableObj #[])) (hv : Rep Z0 v (.list (pInts ns))) (hn : ns.length ≤ 1000)
    (hR : ∀ s' h' tk, s' = { s with heap := h', toks := tk } → OldK s.heap s'.heap → R (.ok (.ret (.bool true))) s') : codeAny (model prg w) A (.call (.ref 106) ⟨[v], []⟩) R s := by
  refine law_enter (k := 160) (fd := lawFd w) (names := ["script"]) (ds := [.list (pInts ns)]) K.base (K.topT 106 _ rfl rfl) rfl (K.codeT (c := 105) rfl rfl rfl rfl) (law_body w) rfl rfl (bind1 fun a => rfl) (by decide) (fun x hx => .inl (by simp only [List.mem_cons, List.not_mem_nil, or_false] at hx; subst hx; rfl)) rfl rfl r (.refl _) hi (.one hv) (fun L s₁ E rm L0 => ?_) rfl rfl rfl
  have hN : (ns.take 12).length ≤ 12 := by rw [List.length_take]; (first | exact ar346 | (first | lia | omega))
  have P := places_of (ns.take 12)
  have hrl := rulesAt_len (ns.take 12) (rowOf (ns.take 12)) 4
  have hro := rowOf_len (ns.take 12)
  have hpk := packed_len (ns.take 12)
  replace L0 : LS s [] Z0 (lawEnv w L) [("script", .fz (.list (pInts ns)))] s₁ := L0
  show wpAny (model prg w) _ (execs [lawSt w 0, lawSt w 1, lawSt w 2, lawSt w 3, lawSt w 4, lawSt w 5, lawSt w 6, lawSt w 7, lawSt w 8, lawSt w 9, lawSt w 10, lawSt w 11, lawSt w 12] (lawEnv w L)) _ _ _
  refine L0.step rm (st0 K ns hn) fun Z1 s1 l1 L1 => ?_
  have K1 := K.mono l1
  refine L1.step rm (st1 K1 (ns.take 12) hN (by decide) rfl) fun Z2 s2 l2 L2 => ?_
  have K2 := K1.mono l2
  refine L2.step rm (st2 K2 (ns.take 12) hN (by decide) rfl rfl) fun Z3 s3 l3 L3 => ?_
  have K3 := K2.mono l3
  refine L3.step rm (st3 K3 (ns.take 12) hN (by decide) rfl rfl rfl) fun Z4 s4 l4 L4 => ?_
  have K4 := K3.mono l4
  refine L4.step rm (st4 K4 (ns.take 12) hN (by decide) rfl rfl rfl) fun Z5 s5 l5 L5 => ?_
  have K5 := K4.mono l5
  have l05 : LeZ Z0 Z5 := l1.trans (l2.trans (l3.trans (l4.trans l5)))
  refine L5.step rm (st5 K5 (let ⟨o, h⟩ := hsm; ⟨o, l05 _ _ h⟩) (ns.take 12) hN (by decide) rfl rfl rfl) fun Z6 s6 l6 L6 => ?_
  have K6 := K5.mono l6
  refine LS.assign (Z := Z6) (T' := [82]) (d := .list (pLists (sufReads (rulesOf (ns.take 12)) (packedOf (ns.take 12))))) (ev_readings (rs := rulesOf (ns.take 12)) K6 L6 (rm.le (by decide)) (by simp) h82 P (by unfold rulesOf; (first | exact ar347 hrl | (first | lia | omega))) (by (first | exact ar312 hN hro | (first | lia | omega))) (by (first | exact ar348 hN hro hpk | (first | lia | omega))) rfl rfl (Ev.callT (ds := [.list ((rulesOf (ns.take 12)).map Rule.pv)]) (Ev.globV K6.base (K6.bl rfl rfl)) (Evs.cons (Ev.name rfl) Evs.nil) fun Z vs _ hr => ?_)
    (fun Z' hle => Ev.slice (xs := pInts (packedOf (ns.take 12))) (lo := none) (hi := none) (st := some (-1)) (Ev.name rfl) PartEv.no PartEv.no (PartEv.so Ev.neg1) (by decide) (by simp [pInts]; (first | exact ar349 hN hro hpk | (first | lia | omega))) fun Z vs rr => ?_) (fun Z' hle => Ev.list Evs.nil) rfl rfl rfl rfl) (.inl rfl) fun Z7 s7 l7 L7 => ?_
  · obtain ⟨_, rfl, x1⟩ := hr.one_inv
    have := op_dict_pairs (prog := prg) (w := w) (Z0 := Z6) (k := 60) (rs := (rulesOf (ns.take 12)).map fun r => (r.new, PV.tup [.int r.a, .int r.b])) (v := _) (Z := Z) (by rw [List.map_map]; exact x1) (by rw [List.map_map]; exact P.ok.nodup) (by rw [List.length_map]; unfold rulesOf; (first | exact ar350 hrl | (first | lia | omega)))
    rw [List.map_map, List.map_map] at this
    exact this
  · have := pick_rev rr
    rw [show pInts (packedOf (ns.take 12)).reverse = (pInts (packedOf (ns.take 12))).reverse by simp [pInts]]
    exact this
  have K7 := K6.mono l7
  refine L7.step rm (st7 K7 (ns.take 12) hN (by decide) rfl rfl) fun Z8 s8 l8 L8 => ?_
  have K8 := K7.mono l8
  have l08 : LeZ Z0 Z8 := l05.trans (l6.trans (l7.trans l8))
  refine' LS.assignG (s₀ := s) (Z := Z8) (T' := [16, 89, 82]) (P := fun Z₁ d => ∃ C g go fd, d = .val (.ref C) ∧ KCls w Z₁ C (.ref g) ∧ Z₁ g = some go ∧ go.data = .func fd ∧ CmpFn w Z₁ g (ns.take 12)) ?h (.inl rfl) ?c
  case h =>
    refine wpAny_mono (ev_cmpkey (RR := sufReads (rulesOf (ns.take 12)) (packedOf (ns.take 12))) K8 L8 (rm.le (by decide)) (by simp) (by simp) h89 h16 (let ⟨o, h⟩ := hsm; ⟨o, l08 _ _ h⟩) (let ⟨o, h, h'⟩ := hcs; ⟨o, l08 _ _ h, h'⟩) (by rw [sufReads_len]; (first | exact ar314 hN hro hpk | (first | lia | omega))) (fun l hl => ?_) (fun l hl => ?_) rfl rfl (Ev.name rfl) rfl rfl) (fun v s₁ q => ?_) fun _ _ x => x
    · rw [readings_eq] at hl
      obtain ⟨x, _, rfl⟩ := List.mem_map.mp hl
      simp
    · obtain ⟨j, hj⟩ := List.mem_iff_getElem?.mp hl
      have hjl : j < (packedOf (ns.take 12)).length := by have := (List.getElem?_eq_some_iff.mp hj).1; rwa [sufReads_len] at this
      rw [suf_get _ _ j hjl] at hj
      cases hj
      have h1 := cut_len (lettersOf (rulesOf (ns.take 12)) (rulesOf (ns.take 12)).length ((packedOf (ns.take 12)).drop j))
      have h2 := congrArg List.length (P.split_eq j)
      rw [List.length_append] at h2
      have h3 : (lettersOf (rulesOf (ns.take 12)) (rulesOf (ns.take 12)).length ((packedOf (ns.take 12)).drop j)).length ≤ (rowOf (ns.take 12)).length := by
        rw [← h2]; exact Nat.le_add_left _ _
      (first | exact ar351 hN hro h1 h3 | (first | lia | omega))
    · obtain ⟨Z₁, C, g, go, fd, hle, L', rfl, KC, hgo, hfd, hF⟩ := q
      exact ⟨Z₁, .val (.ref C), hle, L', .val _, C, g, go, fd, rfl, KC, hgo, hfd, fun i j hi hj => hF i j _ _ (reading_at _ hi) (reading_at _ hj)⟩
  intro Z9 d s9 hP l9 L9
  obtain ⟨C, g, go, fd, rfl, KC, hgo, hfd, hF⟩ := hP
  obtain ⟨M, md, f0, f1, f2, f3, f4, f5, cm, on, es, KI⟩ := KC.info
  have K9 := K8.mono l9
  refine L9.step rm (st9 K9 KI hgo hfd (ns.take 12) hN hF (by decide) rfl rfl) fun Z10 s10 l10 L10 => ?_
  have K10 := K9.mono l10
  refine L10.step rm (st10 K10 (ns.take 12) hN (by decide) rfl rfl rfl) fun Z11 s11 l11 L11 => ?_
  have K11 := K10.mono l11
  have l911 := l10.trans l11
  refine L11.step rm (st11 K11 (KI.mono l911) (l911 _ _ hgo) hfd (ns.take 12) hN (fun i j hi hj => (hF i j hi hj).base l911) (by decide) rfl rfl rfl) fun Z12 s12 l12 L12 => ?_
  refine wpAny_execs_cons (wpAny_Return_some (wpAny_Constant_bool ?_))
  obtain ⟨h', tk, e⟩ := L12.same
  refine hR s12 h' tk e (L12.oldK fun b hb => ?_)
  simp only [List.mem_cons, List.not_mem_nil, or_false] at hb
  rcases hb with rfl | rfl | rfl
  · exact ⟨h16, (K.isCode20 hi h16).2.isCodeTable⟩
  · exact ⟨h89, (K.isCode93 hi h89).2.isCodeTable⟩
  · exact ⟨h82, (K.isCode86 hi h82).2.isCodeTable⟩
end Mq
set_option tactic.hygienic true
namespace Mq
open PySem PySem.Spec PySem.Calls PyProof.Rows PySem.W
theorem well_list {P : Params} {h : Heap} {a : Addr} {d : PyData} {l : List PyData} (e : d = PyData.list l) (x : Well P h (.ref a) (ofPy d)) : ∃ vs : List Value, h.get? a = some { cls := .type "list", data := .seq vs.toArray } := by
  subst e
  generalize hd : ofPy (PyData.list l) = u at x
  cases x with
  | list h _ => exact ⟨_, h⟩
  | _ => simp [ofPy] at hd
theorem Ns_snap {h h' : Heap} {a : Addr} {m : Str → Option Value} (n : h.Ns a m) (hi : InH (snapZ h) h') : h'.Ns a m := by
  obtain ⟨o, es, ep, ho, hd, r⟩ := n
  exact ⟨o, es, ep, hi.get (snapZ_some ho (Tb.dict hd)), hd, r⟩
theorem kit_of {w : World} {p : Program} {loose : List Str} {mean : ExcName → Option Value} {h : Heap} {mg mb : Str → Option Value} (KX : (hK w).In h) (T : Top p loose mean mg mb h) : Kit w (snapZ h) mg mb := by
  refine ⟨⟨fun h' hi => Ns_snap T.g hi, fun h' hi => Ns_snap T.b hi, fun h' hi => ?_⟩, fun a o e hc => snapZ_some (KX a o e) (Tb.cls hc), fun n v e => mg_of KX T.g e, fun n e => ns_none_of KX T.g e, T.builtins, ?_⟩
  · obtain ⟨mc, n, q⟩ := T.nolimit
    exact ⟨mc, Ns_snap n hi, q⟩
  · obtain ⟨bm, ob, e1, _, e2, e3, r⟩ := T.bmain
    exact ⟨bm, ob, e1, snapZ_some e2 (Tb.ty e3), e3, r⟩
theorem room_caller : Room callerA 161 := ⟨rfl, rfl, by decide, by decide⟩
theorem table_of {w : World} {p : Program} {loose : List Str} {mean : ExcName → Option Value} {mg mb : Str → Option Value} {h : Heap} (KX : (hK w).In h) (T : Top p loose mean mg mb h) (name : Str) {f c P : Addr} {o oc : Obj} {fd : FuncData} {vs : Array Value}
    (hf : ((recsOf p).find? fun d => d.name == name).isSome = true) (h1 : nsIn (hK w) 3 name = some (some (.ref f))) (h2 : (hK w).lookup f = some o) (h3 : o.data = .func fd) (h4 : fd.code = .ref c) (h5 : (hK w).lookup c = some oc) (h6 : oc.data = .fields vs) (h7 : vs[11]? = some (.ref P)) : h.get? P = some (X.tableObj #[]) := by
  obtain ⟨d, hd⟩ := Option.isSome_iff_exists.mp hf
  have hn : d.name = name := beq_iff_eq.mp (List.find?_some (p := fun d : DefRec => d.name == name) hd)
  obtain ⟨a, o', fd', c', P', e1, e2, e3, e4, e5, ⟨o2, vs', e6, e7, e8, e9⟩, e10⟩ := T.tab d (List.mem_of_find?_eq_some hd)
  rw [hn, mg_of KX T.g h1] at e1
  obtain rfl : f = a := by injection e1 with e1; injection e1
  rw [KX _ _ h2] at e2
  obtain rfl : o = o' := Option.some.inj e2
  rw [h3] at e3
  obtain rfl : fd = fd' := by injection e3
  rw [h4] at e4
  obtain rfl : c = c' := by injection e4
  rw [KX _ _ h5] at e6
  obtain rfl : oc = o2 := Option.some.inj e6
  rw [h6] at e8
  obtain rfl : vs = vs' := by injection e8
  rw [h7] at e9
  obtain rfl : P = P' := by injection e9 with e9; injection e9
  exact e10
theorem law_final {w : World} {s1 : Shared} {loose : List Str} {mean : ExcName → Option Value} {mg mb : Str → Option Value} {a : Addr} {vs : List Value} {ns : List Int} {Q : Value → Shared → Prop} {E : Value → Shared → Prop} (KX : (hK w).In s1.heap) (T : Top hx.view_39 loose mean mg mb s1.heap)
    (hL : s1.heap.get? a = some { cls := .type "list", data := .seq vs.toArray }) (hI : IntsAre vs ns) (hn : ns.length ≤ 1000) (hQ : ∀ s' h' tk, s' = { s1 with heap := h', toks := tk } → OldK s1.heap s'.heap → Q (.bool true) s') : wpAny (model prg w) callerA (call (.ref 106) [.ref a]) Q E s1 := by
  have K := kit_of KX T
  refine wpAny_call (law_run (ns := ns) K ?_ ?_ room_caller (snapZ_in _) (table_of KX T "cmp_to_key" (by kernel_rfl) rfl rfl rfl rfl rfl rfl rfl) (table_of KX T "_law_reader" (by kernel_rfl) rfl rfl rfl rfl rfl rfl rfl) (table_of KX T "_law_comparing" (by kernel_rfl) rfl rfl rfl rfl rfl rfl rfl) (.list (snapZ_some hL (Tb.seq rfl)) rfl rfl rfl (.ofInts hI)) hn hQ)
  · obtain ⟨mm, ⟨o, es, ep, ho, hd, _⟩, _⟩ := (T.seer (by kernel_rfl)).mods
    exact ⟨o, snapZ_some ho (Tb.dict hd)⟩
  · exact ⟨_, snapZ_some (KX 2 _ rfl) (Tb.dict rfl), by kernel_rfl!⟩
end Mq
open PySem PySem.W PyProof.Rows
theorem PySem.Challenge.cw_mq0081_01_holds : PySem.Challenge.rw_mq0081_01.Holds := by
  exact Mq.hx (by
    k_fill
    intro w s0 s1 mg mb G Y fa o pm cd doc dV kV ho hd hcd hD hmg hg args vals as hpre hlay hrd hwl hlo
    have KX := km_in_of Y
    refine Ground.open G ?_
    intro T B D TE TW
    wrow_args hpre hlay hrd hwl hlo
    x_fa T KX hmg
    rename_i ns _ _ _ _ _ _ _ a vs _ hL ra w1 r0 hI hr hc _
    obtain ⟨us, hus⟩ := Mq.well_list rfl w1
    obtain ⟨ol, hol, hcl, n, hdl⟩ := hL
    rw [hus] at hol
    cases hol
    have e : us = vs := by injection hdl with h1 _; exact congrArg Array.toList h1
    subst e
    refine Mq.law_final KX T hus hI (by (first | exact ar352 hc | (first | lia | omega))) fun s' h' tk es hold => ?_
    subst es
    exact ⟨.inl ⟨_, _, [], rfl, fun _ => rfl, ReadsW.bool true, by first | rfl | wrow_post, fun _ => ⟨List.nodup_nil, fun _ hm => (nomatch hm)⟩⟩, hold, rfl, .of_eq hg⟩)
