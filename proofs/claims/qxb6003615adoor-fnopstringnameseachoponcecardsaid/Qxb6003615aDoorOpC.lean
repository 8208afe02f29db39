/-
  DERIVED. THE WALK of the law: FnOpStringNamesEachOpOnce.
-/
import Derived.Test.Qxb6003615aDoorOpB
namespace Go.Proofs.Qxb6003615aDoor.Op
open Go.RowKit

theorem dg (k : Nat) (h : k < 10) : ((UInt8.ofNat (48 + k)).toNat : Int) = 48 + (k : Int) := by
  rw [UInt8.toNat_ofNat']
  omega

theorem num_any (n : Nat) (w : World) (h5 : 5 ≤ n) (hn : n < 256) :
    Calls Tryd.prog 6 #[.string (S n), .int .i64 n] w fun e w' => e = .returned (.bool true) ∧ w' = w := by
  have hS : S n = ⟨([79, 112, 40] ++ Plain.dec n ++ [41]).toArray⟩ := by
    unfold S Plain.opStr
    rw [if_neg (by omega), if_neg (by omega), if_neg (by omega), if_neg (by omega), if_neg (by omega)]
  by_cases h1 : n < 10
  · have d1 := dg n h1
    have hd : Plain.dec n = [UInt8.ofNat (48 + n)] := by unfold Plain.dec; rw [if_pos h1]
    rw [hS, hd]
    generalize UInt8.ofNat (48 + n) = x at d1
    rw [show (n : Int) = (x.toNat : Int) - 48 from by omega]
    exact num1 x w (by omega) (by omega)
  · by_cases h2 : n < 100
    · have d1 := dg (n / 10) (by omega)
      have d2 := dg (n % 10) (by omega)
      have hd : Plain.dec n = [UInt8.ofNat (48 + n / 10), UInt8.ofNat (48 + n % 10)] := by unfold Plain.dec; rw [if_neg h1, if_pos h2]
      rw [hS, hd]
      generalize UInt8.ofNat (48 + n / 10) = x at d1
      generalize UInt8.ofNat (48 + n % 10) = y at d2
      rw [show (n : Int) = ((x.toNat : Int) - 48) * 10 + ((y.toNat : Int) - 48) from by omega]
      exact num2 x y w (by omega) (by omega) (by omega) (by omega)
    · have d1 := dg (n / 100) (by omega)
      have d2 := dg (n / 10 % 10) (by omega)
      have d3 := dg (n % 10) (by omega)
      have hd : Plain.dec n = [UInt8.ofNat (48 + n / 100), UInt8.ofNat (48 + n / 10 % 10), UInt8.ofNat (48 + n % 10)] := by unfold Plain.dec; rw [if_neg h1, if_neg h2]
      rw [hS, hd]
      generalize UInt8.ofNat (48 + n / 100) = x at d1
      generalize UInt8.ofNat (48 + n / 10 % 10) = y at d2
      generalize UInt8.ofNat (48 + n % 10) = z at d3
      rw [show (n : Int) = (((x.toNat : Int) - 48) * 10 + ((y.toNat : Int) - 48)) * 10 + ((z.toNat : Int) - 48) from by omega]
      exact num3 x y z w (by omega) (by omega) (by omega) (by omega) (by omega) (by omega)

/-- Two Ops are written alike just where they are one. -/
theorem same_text (a b : Nat) (ha : a < 256) (hb : b < 256) : ((S a).toList == (S b).toList) = ((a : Int) == (b : Int)) := by
  by_cases h : a = b
  · subst h; simp
  · rw [beq_eq_false_iff_ne.2 (by omega : (a : Int) ≠ (b : Int)), beq_eq_false_iff_ne]
    intro e
    rw [ByteArray.toList_eq, ByteArray.toList_eq] at e
    unfold S at e
    simp only at e
    exact h (Plain.opStr_inj ha hb e)

set_option maxRecDepth 100000 in
set_option maxHeartbeats 400000 in
theorem law (a b : Nat) (w : World) (ha : a < 256) (hb : b < 256) (ht : Tab w) :
    Calls Tryd.prog 3 #[.int .u8 a, .int .u8 b] w fun e w' => e = .returned (.bool true) ∧ Below w.heap.size w w' := by
  go_enter Tryd.func3, Tryd.ntmps3
  go_wp2_with fail
  refine (str_any a _ ha ht).mono ?_
  rintro e w1 ⟨rfl, hb1⟩
  have ht1 := tab_below ht hb1
  go_wp2_with fail
  refine (str_any b _ hb ht1).mono ?_
  rintro e w2 ⟨rfl, hb2⟩
  have hB : Below w.heap.size w w2 := hb1.trans (hb2.mono hb1.size)
  clear hb1 hb2 ht ht1
  have heq := same_text a b ha hb
  go_wp2_with fail
  · refine (sign_any a _ (by omega)).mono ?_
    rintro e w3 ⟨rfl, rfl⟩
    go_wp2_with fail
    go_ret
    exact ⟨rfl, hB⟩
  · refine (num_any a _ (by omega) ha).mono ?_
    rintro e w3 ⟨rfl, rfl⟩
    go_wp2_with fail
    go_ret
    exact ⟨rfl, hB⟩

end Go.Proofs.Qxb6003615aDoor.Op
