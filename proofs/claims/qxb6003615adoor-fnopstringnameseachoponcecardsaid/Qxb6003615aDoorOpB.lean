/-
  DERIVED. THE WALK of Op.String, strconv.Itoa by the shelf's contract.
-/
import Derived.Test.Qxb6003615aDoorOpA
import Derived.Test.Qxb6003615aDoorShelf
namespace Go.Proofs.Qxb6003615aDoor.Op
open Go.RowKit Go.Sort

/-- The name of strconv's table of powers of ten: the first that the row names. -/
def tabName : String := Rows.fnOpStringNamesEachOpOnceRow.named.headD ""

/-- The table of powers of ten is laid. -/
def Tab (w : World) : Prop := Lib.TabIs Tryd.prog w tabName .u64 Lib.pow10Tab

theorem tab_global : Tryd.prog.globalNamed tabName = some 0 := by kernel_rfl

theorem tab_below {w w' : World} (h : Tab w) (hb : Below w.heap.size w w') : Tab w' := by
  have hg : 0 < w.heap.size := by
    have h' : w.var? Tryd.prog tabName = _ := h
    unfold World.var? at h'
    rw [tab_global] at h'
    simp only [Option.bind_some] at h'
    by_cases hc : 0 < w.heap.size
    · exact hc
    · rw [Array.getElem?_eq_none (by omega)] at h'
      simp at h'
  exact var?_below hb tab_global hg h

theorem below_grow (w : World) (k : Nat) (os : Array Obj) : Below w.heap.size w (grow (w.drewN k) os) :=
  ⟨rfl, rfl, rfl, by rw [size_grow]; exact Nat.le_add_right _ _, fun i hi => heap_grow_old (w.drewN k) os hi⟩

theorem itoa_dec (n : Nat) (h : n < 1000) : Lib.itoa (n : Int) = Plain.dec n := by
  rw [Lib.itoa_nonneg, Lib.decDigits]
  unfold Plain.dec
  by_cases h1 : n < 10
  · rw [dif_pos h1, if_pos h1]
  · rw [dif_neg h1, if_neg h1, Lib.decDigits]
    by_cases h2 : n < 100
    · rw [dif_pos (by omega), if_pos h2]; rfl
    · rw [dif_neg (by omega), if_neg h2, Lib.decDigits, dif_pos (by omega)]
      rw [show n / 10 / 10 = n / 100 from by omega]
      rfl

theorem dec_len (n : Nat) : (Plain.dec n).length ≤ 3 := by unfold Plain.dec; (repeat' split) <;> simp

theorem itoa_any (n : Nat) (w : World) (hn : n < 256) (ht : Tab w) :
    Calls Tryd.prog 7 #[.int .i64 n] w fun e w' => e = .returned (.string ⟨(Plain.dec n).toArray⟩) ∧ Below w.heap.size w w' := by
  refine (Any.strconv_Itoa Tryd.laysM171 (n : Int) (by omega) (by omega) w ht).mono ?_
  rintro e w' ⟨rfl, k, os, rfl⟩
  exact ⟨by rw [itoa_dec n (by omega)], below_grow w k os⟩

set_option maxRecDepth 100000 in
set_option maxHeartbeats 400000 in
theorem str_sign (n : Nat) (w : World) (hn : n ≤ 4) :
    Calls Tryd.prog 4 #[.int .u8 n] w fun e w' => e = .returned (.string (S n)) ∧ w' = w := by
  obtain rfl | rfl | rfl | rfl | rfl : n = 0 ∨ n = 1 ∨ n = 2 ∨ n = 3 ∨ n = 4 := by omega
  all_goals
    go_enter Tryd.func4, Tryd.ntmps4
    go_wp2
    go_ret
    exact ⟨rfl, rfl⟩

theorem S_big (n : Nat) (h : 5 ≤ n) : S n = ⟨#[79, 112, 40]⟩ ++ ⟨(Plain.dec n).toArray⟩ ++ ⟨#[41]⟩ := by
  unfold S Plain.opStr
  rw [if_neg (by omega), if_neg (by omega), if_neg (by omega), if_neg (by omega), if_neg (by omega)]
  generalize Plain.dec n = l
  apply ByteArray.ext
  simp

set_option maxRecDepth 100000 in
set_option maxHeartbeats 400000 in
theorem str_num (n : Nat) (w : World) (h5 : 5 ≤ n) (hn : n < 256) (ht : Tab w) :
    Calls Tryd.prog 4 #[.int .u8 n] w fun e w' => e = .returned (.string (S n)) ∧ Below w.heap.size w w' := by
  have hl := dec_len n
  go_enter Tryd.func4, Tryd.ntmps4
  go_wp2_with (go_at_call 7; refine (itoa_any n _ hn ht).mono ?_; rintro e w' ⟨rfl, hb⟩)
  go_ret
  exact ⟨by rw [S_big n h5]; rfl, hb⟩

/-- What Op(n).String() does, n a byte. -/
theorem str_any (n : Nat) (w : World) (hn : n < 256) (ht : Tab w) :
    Calls Tryd.prog 4 #[.int .u8 n] w fun e w' => e = .returned (.string (S n)) ∧ Below w.heap.size w w' := by
  by_cases h : n ≤ 4
  · refine (str_sign n w h).mono ?_
    rintro e w' ⟨he, rfl⟩
    exact ⟨he, Below.refl _ _⟩
  · exact str_num n w (by omega) hn ht

end Go.Proofs.Qxb6003615aDoor.Op
