/-
  DERIVED. THE WALK of validUTF8.
-/
import Derived.Test.Qxb6003789aClipA
namespace Go.Proofs.Qxb6003789a.Clip
open Go.RowKit

/-- What validUTF8 answers: yes just where characters alone stand. -/
def ValidEnd (s : ByteArray) (e : Ending) : Prop := ∃ b : Bool, e = .returned (.bool b) ∧ (b = true ↔ Plain.Val (gb s) s.size s.size 0)

theorem lead1 {c : Nat} (h : c < 128) : Plain.lead c = 1 := by unfold Plain.lead; rw [if_pos h]
theorem lead2 {c : Nat} (h : 194 ≤ c) (h' : c ≤ 223) : Plain.lead c = 2 := by unfold Plain.lead; rw [if_neg (by omega), if_pos (by omega)]
theorem lead3 {c : Nat} (h : 224 ≤ c) (h' : c ≤ 239) : Plain.lead c = 3 := by unfold Plain.lead; rw [if_neg (by omega), if_neg (by omega), if_pos (by omega)]
theorem lead4 {c : Nat} (h : 240 ≤ c) (h' : c ≤ 244) : Plain.lead c = 4 := by unfold Plain.lead; rw [if_neg (by omega), if_neg (by omega), if_neg (by omega), if_pos (by omega)]
theorem lead0 {c : Nat} (h : 128 ≤ c) (h' : c < 194 ∨ 244 < c) : Plain.lead c = 0 := by unfold Plain.lead; rw [if_neg (by omega), if_neg (by omega), if_neg (by omega), if_neg (by omega)]

/-- No character at k: the answer is no. -/
theorem no_end {s : ByteArray} {k f : Nat} (hlt : k < s.size) (hf : s.size ≤ k + f) (HI : Hid (Plain.Val (gb s) s.size f k ↔ Plain.Val (gb s) s.size s.size 0)) (hno : ¬ Plain.OkAt (gb s) s.size k) :
    ValidEnd s (.returned (.bool false)) := by
  refine ⟨false, rfl, ⟨fun h => (by cases h), fun hv => ?_⟩⟩
  obtain ⟨f', rfl⟩ : ∃ f', f = f' + 1 := ⟨f - 1, by omega⟩
  exact absurd ((HI.out.2 hv) hlt).1 hno

theorem no_lead {s : ByteArray} {k : Nat} (h : Plain.lead (gb s k) = 0) : ¬ Plain.OkAt (gb s) s.size k := fun ho => ho.1 h

theorem no_room {s : ByteArray} {k m : Nat} (hl : Plain.lead (gb s k) = m) (h : s.size < k + m) : ¬ Plain.OkAt (gb s) s.size k := fun ho => by
  have := ho.2.1
  rw [hl] at this
  omega

theorem no_cont {s : ByteArray} {k m n : Nat} (hl : Plain.lead (gb s k) = n) (h1 : 1 ≤ m) (h2 : m < n) (h : ¬ Plain.Cont (gb s (k + m))) : ¬ Plain.OkAt (gb s) s.size k := fun ho =>
  h (ho.2.2.1 m h1 (by rw [hl]; exact h2))

theorem no_sec {s : ByteArray} {k n : Nat} (hl : Plain.lead (gb s k) = n) (h2 : 2 ≤ n) (h : ¬ Plain.Sec (gb s k) (gb s (k + 1))) : ¬ Plain.OkAt (gb s) s.size k := fun ho =>
  h (ho.2.2.2 (by rw [hl]; exact h2))

theorem ok_one1 {s : ByteArray} {k : Nat} (hlt : k < s.size) (hl : Plain.lead (gb s k) = 1) : Plain.OkAt (gb s) s.size k :=
  ⟨by omega, by omega, fun j h1 h2 => by omega, fun h => by omega⟩

theorem ok_more {s : ByteArray} {k n : Nat} (hl : Plain.lead (gb s k) = n) (h0 : 2 ≤ n) (hr : k + n ≤ s.size) (hc : ∀ j, 1 ≤ j → j < n → Plain.Cont (gb s (k + j))) (h : Plain.Sec (gb s k) (gb s (k + 1))) : Plain.OkAt (gb s) s.size k :=
  ⟨by omega, by omega, fun j h1 h2 => hc j h1 (by omega), fun _ => h⟩

/-- A character of n bytes at k: the loop goes on behind it. -/
theorem go_on {s : ByteArray} {k f n : Nat} (hlt : k < s.size) (hf : s.size ≤ k + f) (HI : Hid (Plain.Val (gb s) s.size f k ↔ Plain.Val (gb s) s.size s.size 0)) (hok : Plain.OkAt (gb s) s.size k) (hl : Plain.lead (gb s k) = n) :
    ∃ f', k + n ≤ s.size ∧ s.size ≤ k + n + f' ∧ (Plain.Val (gb s) s.size f' (k + n) ↔ Plain.Val (gb s) s.size s.size 0) := by
  obtain ⟨f', rfl⟩ : ∃ f', f = f' + 1 := ⟨f - 1, by omega⟩
  have h0 := hok.1
  have h1 := hok.2.1
  rw [hl] at h0 h1
  refine ⟨f', h1, by omega, ?_⟩
  rw [← HI.out, Plain.val_step _ _ _ _ hlt, hl]
  exact ⟨fun h => ⟨hok, h⟩, fun h => h.2⟩

set_option maxRecDepth 100000 in
set_option maxHeartbeats 4000000 in
theorem valid_any (s : ByteArray) (w : World) (hs : s.size ≤ 1048576) :
    Calls Try.prog 11 #[.string s] w fun e w' => ValidEnd s e ∧ w' = w := by
  go_enter Try.func11, Try.ntmps11
  go_wp2
  go_loop [3] (fun i => ∃ k f : Nat, k ≤ s.size ∧ i = .int .i64 k ∧ s.size ≤ k + f ∧ (Plain.Val (gb s) s.size f k ↔ Plain.Val (gb s) s.size s.size 0)) (fun i => s.size - (intOf i).toNat)
  case atStart => exact ⟨0, s.size, Nat.zero_le _, rfl, by omega, Iff.rfl⟩
  case round =>
    obtain ⟨k, f, hk, rfl, hf, hiff⟩ := hrel
    have HI : Hid (Plain.Val (gb s) s.size f k ↔ Plain.Val (gb s) s.size s.size 0) := hiff
    clear hiff
    by_cases hlt : k < s.size
    · go_wp2
      · have e0 := gb_at s k hlt
        have hl : Plain.lead (gb s k) = 1 := lead1 (by omega)
        obtain ⟨f', g1, g2, g3⟩ := go_on hlt hf HI (ok_one1 hlt hl) hl
        go_round
        case rel => exact ⟨k + 1, f', g1, by go_num, g2, g3⟩
        case measure => simp [intOf]; omega
      · have e0 := gb_at s k hlt
        go_ret
        exact ⟨no_end hlt hf HI (no_room (m := 2) (lead2 (by omega) (by omega)) (by omega)), rfl⟩
      · go_loop [6] (fun t => ∃ m : Nat, 1 ≤ m ∧ m ≤ 2 ∧ t = .int .i64 m ∧ ∀ j, 1 ≤ j → j < m → Plain.Cont (gb s (k + j))) (fun t => 2 - (intOf t).toNat)
        case atStart => exact ⟨1, by omega, by omega, rfl, fun j h1 h2 => by omega⟩
        case round =>
          obtain ⟨m, hm1, hm2, rfl, hc⟩ := hrel
          have HC : Hid (∀ j, 1 ≤ j → j < m → Plain.Cont (gb s (k + j))) := hc
          clear hc
          by_cases hmn : m < 2
          · have hkm : k + m < s.size := by omega
            go_wp2
            · have e0 := gb_at s k hlt
              have hb := start_of (((s[k + m]'hkm).toNat : Nat) : Int) (byte_lt _).1 (byte_lt _).2
              have hn := start_yes (hb.symm.trans (by assumption))
              rw [gb_at] at hn
              go_ret
              exact ⟨no_end hlt hf HI (no_cont (lead2 (by omega) (by omega)) hm1 hmn hn), rfl⟩
            · have hb := start_of (((s[k + m]'hkm).toNat : Nat) : Int) (byte_lt _).1 (byte_lt _).2
              have hn := start_no (hb.symm.trans (by assumption))
              rw [gb_at] at hn
              go_round
              case rel =>
                refine ⟨m + 1, by omega, by omega, by go_num, fun j h1 h2 => ?_⟩
                by_cases e : j = m
                · rw [e]; exact hn
                · exact HC.out j h1 (by omega)
              case measure => simp [intOf]; omega
          · have hm : m = 2 := by omega
            subst hm
            have hk1 : k + 1 < s.size := by omega
            go_wp2
            all_goals
              have e0 := gb_at s k hlt
              have e1 := gb_at s (k + 1) hk1
              have hl : Plain.lead (gb s k) = 2 := lead2 (by omega) (by omega)
              first
              | (go_ret; exact ⟨no_end hlt hf HI (no_sec hl (by omega) (by unfold Plain.Sec; omega)), rfl⟩)
              | (obtain ⟨f', g1, g2, g3⟩ := go_on hlt hf HI (ok_more hl (by omega) (by omega) HC.out (by unfold Plain.Sec; omega)) hl
                 go_round
                 case rel => exact ⟨k + 2, f', g1, by go_num, g2, g3⟩
                 case measure => simp [intOf]; omega)
      · have e0 := gb_at s k hlt
        go_ret
        exact ⟨no_end hlt hf HI (no_room (m := 3) (lead3 (by omega) (by omega)) (by omega)), rfl⟩
      · go_loop [6] (fun t => ∃ m : Nat, 1 ≤ m ∧ m ≤ 3 ∧ t = .int .i64 m ∧ ∀ j, 1 ≤ j → j < m → Plain.Cont (gb s (k + j))) (fun t => 3 - (intOf t).toNat)
        case atStart => exact ⟨1, by omega, by omega, rfl, fun j h1 h2 => by omega⟩
        case round =>
          obtain ⟨m, hm1, hm2, rfl, hc⟩ := hrel
          have HC : Hid (∀ j, 1 ≤ j → j < m → Plain.Cont (gb s (k + j))) := hc
          clear hc
          by_cases hmn : m < 3
          · have hkm : k + m < s.size := by omega
            go_wp2
            · have e0 := gb_at s k hlt
              have hb := start_of (((s[k + m]'hkm).toNat : Nat) : Int) (byte_lt _).1 (byte_lt _).2
              have hn := start_yes (hb.symm.trans (by assumption))
              rw [gb_at] at hn
              go_ret
              exact ⟨no_end hlt hf HI (no_cont (lead3 (by omega) (by omega)) hm1 hmn hn), rfl⟩
            · have hb := start_of (((s[k + m]'hkm).toNat : Nat) : Int) (byte_lt _).1 (byte_lt _).2
              have hn := start_no (hb.symm.trans (by assumption))
              rw [gb_at] at hn
              go_round
              case rel =>
                refine ⟨m + 1, by omega, by omega, by go_num, fun j h1 h2 => ?_⟩
                by_cases e : j = m
                · rw [e]; exact hn
                · exact HC.out j h1 (by omega)
              case measure => simp [intOf]; omega
          · have hm : m = 3 := by omega
            subst hm
            have hk1 : k + 1 < s.size := by omega
            go_wp2
            all_goals
              have e0 := gb_at s k hlt
              have e1 := gb_at s (k + 1) hk1
              have hl : Plain.lead (gb s k) = 3 := lead3 (by omega) (by omega)
              first
              | (go_ret; exact ⟨no_end hlt hf HI (no_sec hl (by omega) (by unfold Plain.Sec; omega)), rfl⟩)
              | (obtain ⟨f', g1, g2, g3⟩ := go_on hlt hf HI (ok_more hl (by omega) (by omega) HC.out (by unfold Plain.Sec; omega)) hl
                 go_round
                 case rel => exact ⟨k + 3, f', g1, by go_num, g2, g3⟩
                 case measure => simp [intOf]; omega)
      · have e0 := gb_at s k hlt
        go_ret
        exact ⟨no_end hlt hf HI (no_room (m := 4) (lead4 (by omega) (by omega)) (by omega)), rfl⟩
      · go_loop [6] (fun t => ∃ m : Nat, 1 ≤ m ∧ m ≤ 4 ∧ t = .int .i64 m ∧ ∀ j, 1 ≤ j → j < m → Plain.Cont (gb s (k + j))) (fun t => 4 - (intOf t).toNat)
        case atStart => exact ⟨1, by omega, by omega, rfl, fun j h1 h2 => by omega⟩
        case round =>
          obtain ⟨m, hm1, hm2, rfl, hc⟩ := hrel
          have HC : Hid (∀ j, 1 ≤ j → j < m → Plain.Cont (gb s (k + j))) := hc
          clear hc
          by_cases hmn : m < 4
          · have hkm : k + m < s.size := by omega
            go_wp2
            · have e0 := gb_at s k hlt
              have hb := start_of (((s[k + m]'hkm).toNat : Nat) : Int) (byte_lt _).1 (byte_lt _).2
              have hn := start_yes (hb.symm.trans (by assumption))
              rw [gb_at] at hn
              go_ret
              exact ⟨no_end hlt hf HI (no_cont (lead4 (by omega) (by omega)) hm1 hmn hn), rfl⟩
            · have hb := start_of (((s[k + m]'hkm).toNat : Nat) : Int) (byte_lt _).1 (byte_lt _).2
              have hn := start_no (hb.symm.trans (by assumption))
              rw [gb_at] at hn
              go_round
              case rel =>
                refine ⟨m + 1, by omega, by omega, by go_num, fun j h1 h2 => ?_⟩
                by_cases e : j = m
                · rw [e]; exact hn
                · exact HC.out j h1 (by omega)
              case measure => simp [intOf]; omega
          · have hm : m = 4 := by omega
            subst hm
            have hk1 : k + 1 < s.size := by omega
            go_wp2
            all_goals
              have e0 := gb_at s k hlt
              have e1 := gb_at s (k + 1) hk1
              have hl : Plain.lead (gb s k) = 4 := lead4 (by omega) (by omega)
              first
              | (go_ret; exact ⟨no_end hlt hf HI (no_sec hl (by omega) (by unfold Plain.Sec; omega)), rfl⟩)
              | (obtain ⟨f', g1, g2, g3⟩ := go_on hlt hf HI (ok_more hl (by omega) (by omega) HC.out (by unfold Plain.Sec; omega)) hl
                 go_round
                 case rel => exact ⟨k + 4, f', g1, by go_num, g2, g3⟩
                 case measure => simp [intOf]; omega)
      · have e0 := gb_at s k hlt
        go_ret
        exact ⟨no_end hlt hf HI (no_lead (lead0 (by omega) (by omega))), rfl⟩
      · have e0 := gb_at s k hlt
        go_ret
        exact ⟨no_end hlt hf HI (no_lead (lead0 (by omega) (by omega))), rfl⟩
    · go_wp2
      go_ret
      exact ⟨⟨true, rfl, fun _ => HI.out.1 (Plain.val_end _ _ _ _ (by omega)), fun _ => rfl⟩, rfl⟩

end Go.Proofs.Qxb6003789a.Clip
