/-
  DERIVED. THE WALKS of RuneStart, zzBytes, allASCII.
-/
import Derived.Test.Qxb6003789aRows
import Derived.Test.Qxb6003789aPlain
import Derived.WalkKit
import Derived.WalkSpells
namespace Go.Proofs.Qxb6003789a.Clip
open Go.RowKit

/-- The byte of s at place i, as a number. -/
def gb (s : ByteArray) (i : Nat) : Nat := if h : i < s.size then (s[i]'h).toNat else 0

theorem gb_at (s : ByteArray) (i : Nat) (h : i < s.size) : (s[i]'h).toNat = gb s i := by unfold gb; rw [dif_pos h]

/-- May the byte c stand first? -/
def startB (c : Int) : Bool := !(decide (128 ≤ c ∧ c ≤ 191))

theorem start_bits : ∀ n : Fin 256, (bits BinOp.and IntKind.u8 (n.val : Int) 192 != 128) = startB (n.val : Int) := by decide +kernel

theorem start_of (b : Int) (h0 : 0 ≤ b) (h1 : b < 256) : (bits BinOp.and IntKind.u8 b 192 != 128) = startB b := by
  have := start_bits ⟨b.toNat, by omega⟩
  simpa [Int.toNat_of_nonneg h0] using this

set_option maxHeartbeats 400000 in
theorem runeStart_any (b : Int) (w : World) (h0 : 0 ≤ b) (h1 : b < 256) :
    Calls Try.prog 15 #[.int .u8 b] w fun e w' => e = .returned (.bool (startB b)) ∧ w' = w := by
  rw [← start_of b h0 h1]
  go_enter Try.func15, Try.ntmps15
  go_wp2
  go_ret
  exact ⟨rfl, rfl⟩

set_option maxHeartbeats 400000 in
theorem bytes_yes (s : ByteArray) (w : World) (h : s.size ≤ 1048576) :
    Calls Try.prog 9 #[.string s] w fun e w' => e = .returned (.bool true) ∧ w' = w := by
  go_enter Try.func9, Try.ntmps9
  go_wp2
  go_ret
  exact ⟨rfl, rfl⟩

set_option maxHeartbeats 400000 in
theorem bytes_no (s : ByteArray) (w : World) (h : 1048576 < s.size) (hs : s.size ≤ maxLen) :
    Calls Try.prog 9 #[.string s] w fun e w' => e = .returned (.bool false) ∧ w' = w := by
  unfold maxLen at hs
  go_enter Try.func9, Try.ntmps9
  go_wp2
  go_ret
  exact ⟨rfl, rfl⟩

/-- What allASCII answers: yes only where each byte is below 128. -/
def AsciiEnd (s : ByteArray) (e : Ending) : Prop := ∃ b : Bool, e = .returned (.bool b) ∧ (b = true → ∀ j, j < s.size → gb s j < 128)

set_option maxRecDepth 100000 in
set_option maxHeartbeats 400000 in
theorem ascii_any (s : ByteArray) (w : World) (hs : s.size ≤ maxLen) :
    Calls Try.prog 12 #[.string s] w fun e w' => AsciiEnd s e ∧ w' = w := by
  unfold maxLen at hs
  go_enter Try.func12, Try.ntmps12
  go_wp2
  go_loop [3] (fun i => ∃ k : Nat, k ≤ s.size ∧ i = .int .i64 k ∧ ∀ j, j < k → gb s j < 128) (fun i => s.size - (intOf i).toNat)
  case atStart => exact ⟨0, Nat.zero_le _, rfl, fun j h => by omega⟩
  case round =>
    obtain ⟨k, hk, rfl, hall⟩ := hrel
    have HA : Hid (∀ j, j < k → gb s j < 128) := hall
    clear hall
    by_cases hlt : k < s.size
    · go_wp2
      · go_ret
        exact ⟨⟨false, rfl, fun h => by cases h⟩, rfl⟩
      · go_round
        case rel =>
          have hb : (s[k]'hlt).toNat < 128 := by omega
          rw [gb_at] at hb
          refine ⟨k + 1, by omega, by go_num, fun j hj => ?_⟩
          by_cases e : j = k
          · rw [e]; exact hb
          · exact HA.out j (by omega)
        case measure => simp [intOf]; omega
    · go_wp2
      go_ret
      exact ⟨⟨true, rfl, fun _ j hj => HA.out j (by omega)⟩, rfl⟩

theorem byte_lt (c : UInt8) : 0 ≤ (c.toNat : Int) ∧ (c.toNat : Int) < 256 := by
  have := c.toNat_lt
  omega

theorem start_no {c : Nat} (h : startB (c : Int) = false) : Plain.Cont c := by
  unfold startB at h; simp at h; unfold Plain.Cont; omega

theorem start_yes {c : Nat} (h : startB (c : Int) = true) : ¬ Plain.Cont c := by
  unfold startB at h; simp at h; unfold Plain.Cont; omega

theorem cut_zero (s : ByteArray) : s.extract 0 0 ++ (⟨#[46, 46, 46]⟩ : ByteArray) = ⟨#[46, 46, 46]⟩ := by simp

/-- What clip answers of a text longer than 40 bytes: the text up to a place where it may be cut, and three points. -/
def ClipEnd (s : ByteArray) (e : Ending) : Prop := ∃ i : Nat, Plain.CutAt (gb s) i ∧ e = .returned (.string (s.extract 0 i ++ ⟨#[46, 46, 46]⟩))

set_option maxRecDepth 100000 in
set_option maxHeartbeats 400000 in
theorem clip_short (s : ByteArray) (w : World) (h : s.size ≤ 40) :
    Calls Try.prog 14 #[.string s] w fun e w' => e = .returned (.string s) ∧ w' = w := by
  go_enter Try.func14, Try.ntmps14
  go_wp2
  go_ret
  exact ⟨rfl, rfl⟩

set_option maxRecDepth 100000 in
set_option maxHeartbeats 400000 in
theorem clip_long (s : ByteArray) (w : World) (h : 40 < s.size) (hs : s.size ≤ 1048576) :
    Calls Try.prog 14 #[.string s] w fun e w' => ClipEnd s e ∧ w' = w := by
  go_enter Try.func14, Try.ntmps14
  go_wp2
  go_loop [3] (fun i => ∃ k : Nat, k ≤ 40 ∧ i = .int .i64 k ∧ ∀ j, k < j → j ≤ 40 → Plain.Cont (gb s j)) (fun i => (intOf i).toNat)
  case atStart => exact ⟨40, by omega, rfl, fun j h1 h2 => by omega⟩
  case round =>
    obtain ⟨k, hk, rfl, hall⟩ := hrel
    have HA : Hid (∀ j, k < j → j ≤ 40 → Plain.Cont (gb s j)) := hall
    clear hall
    by_cases hlt : 0 < k
    · have hks : k < s.size := by omega
      go_wp2_with (go_at_call 15; refine (runeStart_any _ _ (byte_lt _).1 (byte_lt _).2).mono ?_; rintro e w' ⟨rfl, rfl⟩)
      · go_round
        case rel =>
          have hb : startB (((s[k]'hks).toNat : Nat) : Int) = false := by simpa using ‹(!startB (((s[k]'hks).toNat : Nat) : Int)) = true›
          have hc := start_no hb
          rw [gb_at] at hc
          refine ⟨k - 1, by omega, by go_num, fun j hj h40 => ?_⟩
          by_cases e : j = k
          · rw [e]; exact hc
          · exact HA.out j (by omega) h40
        case measure => simp [intOf]; omega
      · have hb : startB (((s[k]'hks).toNat : Nat) : Int) = true := by simpa using ‹(!startB (((s[k]'hks).toNat : Nat) : Int)) = false›
        have hc := start_yes hb
        rw [gb_at] at hc
        go_ret
        exact ⟨⟨k, ⟨hk, Or.inr hc, HA.out⟩, rfl⟩, rfl⟩
    · have hk0 : k = 0 := by omega
      subst hk0
      go_wp2
      go_ret
      exact ⟨⟨0, ⟨hk, Or.inl rfl, HA.out⟩, by rw [cut_zero]; rfl⟩, rfl⟩

set_option maxHeartbeats 400000 in
theorem zzclip_short (s : ByteArray) (w : World) (h : s.size ≤ 40) :
    Calls Try.prog 10 #[.string s] w fun e w' => e = .returned (.string s) ∧ w' = w := by
  go_enter Try.func10, Try.ntmps10
  go_wp2_with (go_at_call 14; refine (clip_short _ _ h).mono ?_; rintro e w' ⟨rfl, rfl⟩)
  go_ret
  exact ⟨rfl, rfl⟩

set_option maxHeartbeats 400000 in
theorem zzclip_long (s : ByteArray) (w : World) (h : 40 < s.size) (hs : s.size ≤ 1048576) :
    Calls Try.prog 10 #[.string s] w fun e w' => ClipEnd s e ∧ w' = w := by
  go_enter Try.func10, Try.ntmps10
  go_wp2_with (go_at_call 14; refine (clip_long _ _ h hs).mono ?_; rintro e w' ⟨⟨i, hi, rfl⟩, rfl⟩)
  go_ret
  exact ⟨⟨i, hi, rfl⟩, rfl⟩

end Go.Proofs.Qxb6003789a.Clip
