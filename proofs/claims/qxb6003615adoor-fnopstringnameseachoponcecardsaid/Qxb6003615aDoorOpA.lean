/-
  DERIVED. THE WALKS of zzIsSign, zzIsOpNumber.
-/
import Derived.Test.Qxb6003615aDoorRows
import Derived.Test.Qxb6003615aDoorPlain
import Derived.WalkKit
import Derived.WalkSpells
import Derived.WalkLawsBesides
namespace Go.Proofs.Qxb6003615aDoor.Op
open Go.RowKit

/-- What Op(n).String() hands back. -/
def S (n : Nat) : ByteArray := ⟨(Plain.opStr n).toArray⟩

set_option maxRecDepth 100000 in
set_option maxHeartbeats 400000 in
theorem sign_any (n : Nat) (w : World) (h : n ≤ 4) :
    Calls Tryd.prog 5 #[.string (S n)] w fun e w' => e = .returned (.bool true) ∧ w' = w := by
  obtain rfl | rfl | rfl | rfl | rfl : n = 0 ∨ n = 1 ∨ n = 2 ∨ n = 3 ∨ n = 4 := by omega
  · rw [show S 0 = ⟨#[61]⟩ from rfl]
    go_enter Tryd.func5, Tryd.ntmps5
    go_wp2
    go_ret
    exact ⟨rfl, rfl⟩
  · rw [show S 1 = ⟨#[60]⟩ from rfl]
    go_enter Tryd.func5, Tryd.ntmps5
    go_wp2
    go_ret
    exact ⟨rfl, rfl⟩
  · rw [show S 2 = ⟨#[60, 61]⟩ from rfl]
    go_enter Tryd.func5, Tryd.ntmps5
    go_wp2
    go_ret
    exact ⟨rfl, rfl⟩
  · rw [show S 3 = ⟨#[62]⟩ from rfl]
    go_enter Tryd.func5, Tryd.ntmps5
    go_wp2
    go_ret
    exact ⟨rfl, rfl⟩
  · rw [show S 4 = ⟨#[62, 61]⟩ from rfl]
    go_enter Tryd.func5, Tryd.ntmps5
    go_wp2
    go_ret
    exact ⟨rfl, rfl⟩

set_option maxRecDepth 100000 in
set_option maxHeartbeats 1000000 in
theorem num1 (x : UInt8) (w : World) (hx : 48 ≤ (x.toNat : Int)) (hx' : (x.toNat : Int) ≤ 57) :
    Calls Tryd.prog 6 #[.string ⟨#[79, 112, 40, x, 41]⟩, .int .i64 ((x.toNat : Int) - 48)] w fun e w' => e = .returned (.bool true) ∧ w' = w := by
  have hd : (⟨#[79, 112, 40, x, 41]⟩ : ByteArray).extract 3 4 = ⟨#[x]⟩ := rfl
  have hi0 : ∀ h, (⟨#[x]⟩ : ByteArray)[0]'h = x := fun _ => rfl
  have hlast : ∀ h, (⟨#[79, 112, 40, x, 41]⟩ : ByteArray)[4]'h = 41 := fun _ => rfl
  go_enter Tryd.func6, Tryd.ntmps6
  go_wp2
  go_loop [6, 7] (fun n i => (n = .int .i64 0 ∧ i = .int .i64 0) ∨ (n = .int .i64 ((x.toNat : Int) - 48) ∧ i = .int .i64 1)) (fun _ i => 1 - (intOf i).toNat)
  case atStart => exact Or.inl ⟨rfl, rfl⟩
  case round =>
    rcases hrel with ⟨rfl, rfl⟩ | ⟨rfl, rfl⟩
    · go_wp2
      go_round
      case rel => exact Or.inr (⟨rfl, rfl⟩)
      case measure => simp [intOf]
    · go_wp2
      go_ret
      exact ⟨rfl, rfl⟩

set_option maxRecDepth 100000 in
set_option maxHeartbeats 1000000 in
theorem num2 (x y : UInt8) (w : World) (hx : 49 ≤ (x.toNat : Int)) (hx' : (x.toNat : Int) ≤ 57) (hy : 48 ≤ (y.toNat : Int)) (hy' : (y.toNat : Int) ≤ 57) :
    Calls Tryd.prog 6 #[.string ⟨#[79, 112, 40, x, y, 41]⟩, .int .i64 (((x.toNat : Int) - 48) * 10 + ((y.toNat : Int) - 48))] w fun e w' => e = .returned (.bool true) ∧ w' = w := by
  have hd : (⟨#[79, 112, 40, x, y, 41]⟩ : ByteArray).extract 3 5 = ⟨#[x, y]⟩ := rfl
  have hi0 : ∀ h, (⟨#[x, y]⟩ : ByteArray)[0]'h = x := fun _ => rfl
  have hx48 : ((x.toNat : Int) == 48) = false := by rw [beq_eq_false_iff_ne]; omega
  have hi1 : ∀ h, (⟨#[x, y]⟩ : ByteArray)[1]'h = y := fun _ => rfl
  have hlast : ∀ h, (⟨#[79, 112, 40, x, y, 41]⟩ : ByteArray)[5]'h = 41 := fun _ => rfl
  go_enter Tryd.func6, Tryd.ntmps6
  go_wp2
  go_loop [6, 7] (fun n i => (n = .int .i64 0 ∧ i = .int .i64 0) ∨ (n = .int .i64 ((x.toNat : Int) - 48) ∧ i = .int .i64 1) ∨ (n = .int .i64 (((x.toNat : Int) - 48) * 10 + ((y.toNat : Int) - 48)) ∧ i = .int .i64 2)) (fun _ i => 2 - (intOf i).toNat)
  case atStart => exact Or.inl ⟨rfl, rfl⟩
  case round =>
    rcases hrel with ⟨rfl, rfl⟩ | ⟨rfl, rfl⟩ | ⟨rfl, rfl⟩
    · go_wp2
      go_round
      case rel => (right; left; exact ⟨rfl, rfl⟩)
      case measure => simp [intOf]
    · go_wp2
      go_round
      case rel => (right; right; exact ⟨rfl, rfl⟩)
      case measure => simp [intOf]
    · go_wp2
      go_ret
      exact ⟨rfl, rfl⟩

set_option maxRecDepth 100000 in
set_option maxHeartbeats 1000000 in
theorem num3 (x y z : UInt8) (w : World) (hx : 49 ≤ (x.toNat : Int)) (hx' : (x.toNat : Int) ≤ 57) (hy : 48 ≤ (y.toNat : Int)) (hy' : (y.toNat : Int) ≤ 57) (hz : 48 ≤ (z.toNat : Int)) (hz' : (z.toNat : Int) ≤ 57) :
    Calls Tryd.prog 6 #[.string ⟨#[79, 112, 40, x, y, z, 41]⟩, .int .i64 ((((x.toNat : Int) - 48) * 10 + ((y.toNat : Int) - 48)) * 10 + ((z.toNat : Int) - 48))] w fun e w' => e = .returned (.bool true) ∧ w' = w := by
  have hd : (⟨#[79, 112, 40, x, y, z, 41]⟩ : ByteArray).extract 3 6 = ⟨#[x, y, z]⟩ := rfl
  have hi0 : ∀ h, (⟨#[x, y, z]⟩ : ByteArray)[0]'h = x := fun _ => rfl
  have hx48 : ((x.toNat : Int) == 48) = false := by rw [beq_eq_false_iff_ne]; omega
  have hi1 : ∀ h, (⟨#[x, y, z]⟩ : ByteArray)[1]'h = y := fun _ => rfl
  have hi2 : ∀ h, (⟨#[x, y, z]⟩ : ByteArray)[2]'h = z := fun _ => rfl
  have hlast : ∀ h, (⟨#[79, 112, 40, x, y, z, 41]⟩ : ByteArray)[6]'h = 41 := fun _ => rfl
  go_enter Tryd.func6, Tryd.ntmps6
  go_wp2
  go_loop [6, 7] (fun n i => (n = .int .i64 0 ∧ i = .int .i64 0) ∨ (n = .int .i64 ((x.toNat : Int) - 48) ∧ i = .int .i64 1) ∨ (n = .int .i64 (((x.toNat : Int) - 48) * 10 + ((y.toNat : Int) - 48)) ∧ i = .int .i64 2) ∨ (n = .int .i64 ((((x.toNat : Int) - 48) * 10 + ((y.toNat : Int) - 48)) * 10 + ((z.toNat : Int) - 48)) ∧ i = .int .i64 3)) (fun _ i => 3 - (intOf i).toNat)
  case atStart => exact Or.inl ⟨rfl, rfl⟩
  case round =>
    rcases hrel with ⟨rfl, rfl⟩ | ⟨rfl, rfl⟩ | ⟨rfl, rfl⟩ | ⟨rfl, rfl⟩
    · go_wp2
      go_round
      case rel => (right; left; exact ⟨rfl, rfl⟩)
      case measure => simp [intOf]
    · go_wp2
      go_round
      case rel => (right; right; left; exact ⟨rfl, rfl⟩)
      case measure => simp [intOf]
    · go_wp2
      go_round
      case rel => (right; right; right; exact ⟨rfl, rfl⟩)
      case measure => simp [intOf]
    · go_wp2
      go_ret
      exact ⟨rfl, rfl⟩

end Go.Proofs.Qxb6003615aDoor.Op
