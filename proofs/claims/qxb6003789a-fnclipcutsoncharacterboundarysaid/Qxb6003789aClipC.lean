/-
  DERIVED. THE WALK of the law: FnClipCutsOnCharacterBoundary.
-/
import Derived.Test.Qxb6003789aClipB
namespace Go.Proofs.Qxb6003789a.Clip
open Go.RowKit

set_option maxRecDepth 100000 in
set_option maxHeartbeats 400000 in
theorem law_huge (s : ByteArray) (w : World) (h : 1048576 < s.size) (hs : s.size ≤ maxLen) :
    Calls Try.prog 4 #[.string s] w fun e w' => e = .returned (.bool true) ∧ w' = w := by
  go_enter Try.func4, Try.ntmps4
  go_wp2_with (go_at_call 9; refine (bytes_no _ _ h hs).mono ?_; rintro e w' ⟨rfl, rfl⟩)
  go_ret
  exact ⟨rfl, rfl⟩

set_option maxRecDepth 100000 in
set_option maxHeartbeats 400000 in
theorem law_short (s : ByteArray) (w : World) (h : s.size ≤ 40) :
    Calls Try.prog 4 #[.string s] w fun e w' => e = .returned (.bool true) ∧ w' = w := by
  go_enter Try.func4, Try.ntmps4
  go_wp2_with (first | (go_at_call 9; refine (bytes_yes _ _ (by omega)).mono ?_; rintro e w' ⟨rfl, rfl⟩) | (go_at_call 10; refine (zzclip_short _ _ h).mono ?_; rintro e w' ⟨rfl, rfl⟩))
  go_ret
  exact ⟨by simp, rfl⟩

/-- What of clip's answer the law looks at. -/
theorem shape (s : ByteArray) (i : Nat) (hi : i ≤ s.size) : ∃ c p : ByteArray, s.extract 0 i ++ ⟨#[46, 46, 46]⟩ = c ∧ c.size = i + 3 ∧ (c.extract i (i + 3)).toList = [46, 46, 46] ∧ c.extract 0 i = p ∧ s.extract 0 i = p ∧ p.size = i ∧ (∀ j, j < i → gb p j = gb s j) := by
  have hz : (s.extract 0 i).size = i := by rw [ByteArray.size_extract]; omega
  have hd : (⟨#[46, 46, 46]⟩ : ByteArray).size = 3 := rfl
  refine ⟨_, s.extract 0 i, rfl, ?_, ?_, ?_, rfl, hz, ?_⟩
  · rw [ByteArray.size_append, hz, hd]
  · rw [ByteArray.extract_append_eq_right hz.symm (by rw [hz, hd])]; decide +kernel
  · rw [ByteArray.extract_append_eq_left hz.symm]
  · intro j hj
    unfold gb
    rw [dif_pos (by omega), dif_pos (by omega), ByteArray.getElem_extract]
    simp

set_option maxRecDepth 100000 in
set_option maxHeartbeats 400000 in
theorem law_long (s : ByteArray) (w : World) (h : 40 < s.size) (hs : s.size ≤ 1048576) :
    Calls Try.prog 4 #[.string s] w fun e w' => e = .returned (.bool true) ∧ w' = w := by
  go_enter Try.func4, Try.ntmps4
  go_wp2_with (go_at_call 9; refine (bytes_yes _ _ (by omega)).mono ?_; rintro e w' ⟨rfl, rfl⟩)
  refine (zzclip_long _ _ h hs).mono ?_
  rintro e w1 ⟨⟨i, hi, rfl⟩, rfl⟩
  have hi40 : i ≤ 40 := hi.1
  have HI : Hid (Plain.CutAt (gb s) i) := hi
  clear hi
  obtain ⟨c, p, hc, hcs, hdots, hcp, hsp, hps, hpg⟩ := shape s i (by omega)
  rw [hc]
  clear hc
  have HG : Hid (∀ j, j < i → gb p j = gb s j) := hpg
  clear hpg
  go_wp2_with fail
  refine (valid_any _ _ hs).mono ?_
  rintro e w2 ⟨⟨b, rfl, hb⟩, rfl⟩
  have HB : Hid (b = true ↔ Plain.Val (gb s) s.size s.size 0) := hb
  clear hb
  cases b
  · go_wp2_with fail
    refine (ascii_any _ _ (by unfold maxLen; omega)).mono ?_
    rintro e w3 ⟨⟨a, rfl, ha⟩, rfl⟩
    cases a
    · go_wp2_with fail
      go_ret
      exact ⟨rfl, rfl⟩
    · have h4 : i = 40 := Plain.cut_ascii (gb s) s.size i h HI.out (ha rfl)
      clear ha
      subst h4
      go_wp2_with fail
      go_ret
      exact ⟨rfl, rfl⟩
  · have hv := HB.out.1 rfl
    have h37 : 37 ≤ i := Plain.cut_far (gb s) s.size i h HI.out hv
    have HV : Hid (Plain.Val (gb p) p.size p.size 0) := by rw [hps]; exact Plain.cut_valid (gb s) (gb p) s.size i h HI.out hv HG.out
    clear hv
    go_wp2_with fail
    refine (valid_any _ _ (by omega)).mono ?_
    rintro e w3 ⟨⟨b2, rfl, hb2⟩, rfl⟩
    have hb3 := hb2.2 HV.out
    clear hb2 HV
    subst hb3
    go_wp2_with fail
    refine (ascii_any _ _ (by unfold maxLen; omega)).mono ?_
    rintro e w4 ⟨⟨a, rfl, ha⟩, rfl⟩
    cases a
    · go_wp2_with fail
      go_ret
      exact ⟨rfl, rfl⟩
    · have h4 : i = 40 := Plain.cut_ascii (gb s) s.size i h HI.out (ha rfl)
      clear ha
      subst h4
      go_wp2_with fail
      go_ret
      exact ⟨rfl, rfl⟩

end Go.Proofs.Qxb6003789a.Clip
