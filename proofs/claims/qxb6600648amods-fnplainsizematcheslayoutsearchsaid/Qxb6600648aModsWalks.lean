import Derived.Test.Qxb6600648aModsRows
import Derived.Test.Qxb6600648aModsPlain
import Derived.WalkKit
import Derived.WalkLawsBesides
import Derived.WalkSpells
namespace Go.Proofs.Qxb6600648aMods
open Go.RowKit

theorem ret_bool {a b : Bool} (h : a = b) : Ending.returned (.bool a) = .returned (.bool b) := by rw [h]
theorem ret_u64 {a b : Int} (h : a = b) : Ending.returned (.int .u64 a) = .returned (.int .u64 b) := by rw [h]

theorem fits_no (p o c : Int) (h : c < siz p o) : fitsB p o c = false := decide_eq_false (by omega)
theorem fits_yes (p o c : Int) (h : siz p o ≤ c) : fitsB p o c = true := decide_eq_true h

set_option maxHeartbeats 400000 in
theorem fits8 (p o c : Int) (w : World) (hp0 : 0 ≤ p) (hp : p ≤ 18446744073709551615) (ho0 : 0 ≤ o) (ho : o ≤ 18446744073709547519) (hc0 : 0 ≤ c) (hc : c ≤ 18446744073709551615) :
    Calls Trym.prog 8 #[.int .u64 p, .int .u64 o, .int .u64 c] w fun e w' => e = .returned (.bool (fitsB p o c)) ∧ w' = w := by
  by_cases h0 : p = 0
  · have h0b : (p == 0) = true := by simp [h0]
    have HF : Hid (fitsB p o c = true) := fits_yes _ _ _ (by rw [h0]; exact hc0)
    clear h0
    go_enter Trym.func8, Trym.ntmps8
    go_wp2
    go_ret
    exact ⟨by rw [HF.out]; rfl, rfl⟩
  · have h0b : (p == 0) = false := by simp [h0]
    have HS : Hid (siz p o = 18 + p / 4096 * (4096 + o) + (if p % 4096 = 0 then 0 else p % 4096 + o)) := if_neg h0
    have hm0 : 0 ≤ p / 4096 * (4096 + o) := mul_nn _ _ (by omega) (by omega)
    by_cases h18 : c < 18
    · have HF : Hid (fitsB p o c = false) := fits_no _ _ _ (by rw [HS.out]; split <;> omega)
      go_enter Trym.func8, Trym.ntmps8
      go_wp2
      go_ret
      exact ⟨by rw [HF.out]; rfl, rfl⟩
    · by_cases hq : (c - 18) / (4096 + o) < p / 4096
      · have HF : Hid (fitsB p o c = false) := fits_no _ _ _ (by rw [HS.out]; have := over_room (c - 18) (4096 + o) (p / 4096) (by omega) hq; split <;> omega)
        go_enter Trym.func8, Trym.ntmps8
        go_wp2
        go_ret
        exact ⟨by rw [HF.out]; rfl, rfl⟩
      · have hm1 := in_room (c - 18) (4096 + o) (p / 4096) (by omega) (by omega)
        by_cases hr0 : p % 4096 = 0
        · have hr0b : (p % 4096 == 0) = true := by simp [hr0]
          have HF : Hid (fitsB p o c = true) := fits_yes _ _ _ (by rw [HS.out, if_pos hr0]; omega)
          clear hr0
          go_enter Trym.func8, Trym.ntmps8
          go_wp2
          go_ret
          exact ⟨by rw [HF.out]; rfl, rfl⟩
        · have hr0b : (p % 4096 == 0) = false := by simp [hr0]
          by_cases hr1 : c - 18 - p / 4096 * (4096 + o) < p % 4096
          · have HF : Hid (fitsB p o c = false) := fits_no _ _ _ (by rw [HS.out, if_neg hr0]; omega)
            go_enter Trym.func8, Trym.ntmps8
            go_wp2
            go_ret
            exact ⟨by rw [HF.out]; rfl, rfl⟩
          · have HF : Hid (fitsB p o c = decide (o ≤ c - 18 - p / 4096 * (4096 + o) - p % 4096)) := by
              show fitsB p o c = _
              unfold fitsB
              rw [HS.out, if_neg hr0]
              exact decide_eq_decide.2 (by omega)
            go_enter Trym.func8, Trym.ntmps8
            go_wp2
            go_ret
            exact ⟨by rw [HF.out]; rfl, rfl⟩

set_option maxHeartbeats 400000 in
theorem size9 (p o : Int) (w : World) (hp0 : 0 ≤ p) (hp : p ≤ 18446744073709551615) (ho0 : 0 ≤ o) (ho : o ≤ 18446744073709547519) (hs : siz p o ≤ 18446744073709551615) :
    Calls Trym.prog 9 #[.int .u64 p, .int .u64 o] w fun e w' => e = .returned (.int .u64 (siz p o)) ∧ w' = w := by
  by_cases h0 : p = 0
  · subst h0
    go_enter Trym.func9, Trym.ntmps9
    go_wp2
    go_ret
    exact ⟨rfl, rfl⟩
  · have h0b : (p == 0) = false := by simp [h0]
    have e : siz p o = 18 + p / 4096 * (4096 + o) + (if p % 4096 = 0 then 0 else p % 4096 + o) := if_neg h0
    have hm0 : 0 ≤ p / 4096 * (4096 + o) := mul_nn _ _ (by omega) (by omega)
    rw [e] at hs
    have HS : Hid (_ = _) := e
    clear e
    by_cases hr : p % 4096 = 0
    · rw [if_pos hr] at hs HS
      have hr1 : ¬ 0 < p % 4096 := by omega
      clear hr
      go_enter Trym.func9, Trym.ntmps9
      go_wp2
      go_ret
      exact ⟨ret_u64 (by rw [HS.out, Int.add_zero]), rfl⟩
    · rw [if_neg hr] at hs HS
      have hr1 : 0 < p % 4096 := by omega
      go_enter Trym.func9, Trym.ntmps9
      go_wp2
      go_ret
      exact ⟨ret_u64 (by rw [HS.out]; omega), rfl⟩

theorem part_le (b st : Int) (hb : 0 ≤ b) (hst : 4096 ≤ st) : 0 ≤ b / st ∧ 0 ≤ b / st * 4096 ∧ b / st * 4096 + b % st ≤ b ∧ 0 ≤ b % st ∧ b % st < st := by
  have h1 := Int.mul_ediv_add_emod b st
  have h2 : 0 ≤ b / st := Int.ediv_nonneg hb (by omega)
  have h3 := Int.emod_nonneg b (show st ≠ 0 by omega)
  have h4 := Int.emod_lt_of_pos b (show 0 < st by omega)
  have h5 := Int.mul_le_mul_of_nonneg_left hst h2
  rw [Int.mul_comm st] at h1
  omega

set_option maxHeartbeats 400000 in
theorem plain10 (c o : Int) (w : World) (hc0 : 0 ≤ c) (hc : c ≤ 18446744073709551615) (ho0 : 0 ≤ o) (ho : o ≤ 18446744073709547519) :
    Calls Trym.prog 10 #[.int .u64 c, .int .u64 o] w fun e w' => e = .returned (.int .u64 (ps c o)) ∧ w' = w := by
  by_cases h18 : c < 18
  · have HS : Hid (ps c o = if c < 1 then c else 1) := if_pos h18
    by_cases h1 : c < 1
    · rw [if_pos h1] at HS
      go_enter Trym.func10, Trym.ntmps10
      go_wp2
      go_ret
      exact ⟨ret_u64 HS.out.symm, rfl⟩
    · rw [if_neg h1] at HS
      go_enter Trym.func10, Trym.ntmps10
      go_wp2
      all_goals go_ret
      · exact ⟨ret_u64 HS.out.symm, rfl⟩
      · exact ⟨ret_u64 (by rw [HS.out]; omega), rfl⟩
  · obtain ⟨g1, g2, g3, g4, g5⟩ := part_le (c - 18) (4096 + o) (by omega) (by omega)
    have HS : Hid (ps c o = _) := if_neg h18
    by_cases ht : 0 < (c - 18) % (4096 + o)
    · rw [if_pos ht] at HS
      by_cases ht1 : (c - 18) % (4096 + o) < o + 1
      · rw [if_pos ht1] at HS
        go_enter Trym.func10, Trym.ntmps10
        go_wp2
        go_ret
        exact ⟨ret_u64 (by rw [HS.out]; omega), rfl⟩
      · rw [if_neg ht1] at HS
        go_enter Trym.func10, Trym.ntmps10
        go_wp2
        go_ret
        exact ⟨ret_u64 (by rw [HS.out]), rfl⟩
    · rw [if_neg ht] at HS
      go_enter Trym.func10, Trym.ntmps10
      go_wp2
      go_ret
      exact ⟨ret_u64 (by rw [HS.out, Int.add_zero]), rfl⟩

set_option maxHeartbeats 400000 in
theorem inverts4 (p o : Int) (w : World) (hp0 : 0 ≤ p) (hp : p ≤ 18446744073709551615) (ho0 : 0 ≤ o) (ho : o ≤ 18446744073709551615) :
    Calls Trym.prog 4 #[.int .u64 p, .int .u64 o] w fun e w' => e = .returned (.bool true) ∧ w' = w := by
  by_cases hb : 18446744073709547519 < o
  · go_enter Trym.func4, Trym.ntmps4
    go_wp2
    go_ret
    exact ⟨rfl, rfl⟩
  · have ho' : o ≤ 18446744073709547519 := by omega
    go_enter Trym.func4, Trym.ntmps4
    go_wp2_with fail
    refine (fits8 p o 18446744073709551615 _ hp0 hp ho0 ho' (by omega) (by omega)).mono ?_
    rintro e w' ⟨rfl, hw⟩; obtain rfl := hw.symm; clear hw
    by_cases hf : siz p o ≤ 18446744073709551615
    · rw [fits_yes _ _ _ hf]
      have h0 : 0 ≤ siz p o := Int.le_trans hp0 (le_siz p o hp0 ho0)
      go_wp2_with fail
      refine (size9 p o _ hp0 hp ho0 ho' hf).mono ?_
      rintro e w' ⟨rfl, hw⟩; obtain rfl := hw.symm; clear hw
      go_wp2_with fail
      refine (plain10 (siz p o) o _ h0 hf ho0 ho').mono ?_
      rintro e w' ⟨rfl, hw⟩; obtain rfl := hw.symm; clear hw
      rw [ps_siz p o hp0 ho0]
      go_wp2
      go_ret
      exact ⟨by simp, rfl⟩
    · rw [fits_no _ _ _ (by omega)]
      go_wp2
      go_ret
      exact ⟨rfl, rfl⟩

theorem neq_fact (a b : Int) : (a ≠ b → (a != b) = true) ∧ (a = b → (a != b) = false) := ⟨fun h => by simp [h], fun h => by simp [h]⟩

set_option maxHeartbeats 1000000 in
theorem search3 (c o : Int) (w : World) (hc0 : 0 ≤ c) (hc : c ≤ 18446744073709551615) (ho0 : 0 ≤ o) (ho : o ≤ 18446744073709551615) :
    Calls Trym.prog 3 #[.int .u64 c, .int .u64 o] w fun e w' => e = .returned (.bool true) ∧ w' = w := by
  by_cases hb : 18446744073709547519 < o
  · go_enter Trym.func3, Trym.ntmps3
    go_wp2
    go_ret
    exact ⟨rfl, rfl⟩
  · have ho' : o ≤ 18446744073709547519 := by omega
    clear ho
    go_enter Trym.func3, Trym.ntmps3
    go_wp2_with fail
    go_loop [5, 6] (fun l h => ∃ lo hi : Int, 0 ≤ lo ∧ lo ≤ hi ∧ hi ≤ c ∧ l = .int .u64 lo ∧ h = .int .u64 hi ∧ siz lo o ≤ c ∧ ∀ p, 0 ≤ p → siz p o ≤ c → p ≤ hi)
      (fun l h => (intOf h - intOf l).toNat)
    case atStart => exact ⟨0, c, by omega, hc0, Int.le_refl _, rfl, rfl, hc0, fun p hp h => Int.le_trans (le_siz p o hp ho0) h⟩
    case round =>
      obtain ⟨lo, hi, hl0, hlh, hhc, rfl, rfl, hfit, hmax⟩ := hrel
      have HX : Hid (∀ p, 0 ≤ p → siz p o ≤ c → p ≤ hi) := hmax
      clear hmax
      by_cases hlt : lo < hi
      · obtain ⟨mid, hmid⟩ : ∃ mid, mid = lo + (hi - lo) / 2 + (hi - lo) % 2 := ⟨_, rfl⟩
        have hm1 : lo < mid := by omega
        have hm2 : mid ≤ hi := by omega
        have HM : Hid (mid = lo + (hi - lo) / 2 + (hi - lo) % 2) := hmid
        clear hmid
        go_wp2_with fail
        rw [← HM.out]
        refine (fits8 mid o c _ (by omega) (by omega) ho0 ho' hc0 hc).mono ?_
        rintro e w' ⟨rfl, hw⟩; obtain rfl := hw.symm; clear hw
        by_cases hf : siz mid o ≤ c
        · rw [fits_yes _ _ _ hf]
          have HG : Hid (siz mid o ≤ c) := hf
          clear hf
          go_wp2_with fail
          go_round
          case rel => exact ⟨mid, hi, by omega, hm2, hhc, rfl, rfl, HG.out, HX.out⟩
          case measure => simp [intOf]; omega
        · rw [fits_no _ _ _ (by omega)]
          have HY : Hid (∀ p, 0 ≤ p → siz p o ≤ c → p ≤ mid - 1) := by
            intro p hp h
            by_cases hle : mid ≤ p
            · have := siz_mono mid p o (by omega) hle ho0
              omega
            · omega
          clear hf
          go_wp2_with fail
          go_round
          case rel => exact ⟨lo, mid - 1, hl0, by omega, by omega, rfl, rfl, hfit, HY.out⟩
          case measure => simp [intOf]; omega
      · have HE : Hid (ps c o = if c ≠ 18 ∧ siz lo o ≠ c then lo + 1 else lo) := ps_search c o lo hc0 ho0 hl0 hfit (fun p hp h => by have := HX.out p hp h; omega)
        by_cases h18 : c = 18
        · have h18b : (c != 18) = false := by simp [h18]
          rw [if_neg (by rintro ⟨h, _⟩; exact h h18)] at HE
          clear h18
          go_wp2_with fail
          refine (plain10 c o _ hc0 hc ho0 ho').mono ?_
          rintro e w' ⟨rfl, hw⟩; obtain rfl := hw.symm; clear hw
          rw [HE.out]
          go_wp2
          go_ret
          exact ⟨by simp, rfl⟩
        · have h18b : (c != 18) = true := by simp [h18]
          by_cases hs : siz lo o = c
          · have hsb : (siz lo o != c) = false := by simp [hs]
            rw [if_neg (by rintro ⟨_, h⟩; exact h hs)] at HE
            clear hs h18
            go_wp2_with fail
            refine (size9 lo o _ hl0 (by omega) ho0 ho' (by omega)).mono ?_
            rintro e w' ⟨rfl, hw⟩; obtain rfl := hw.symm; clear hw
            go_wp2_with fail
            refine (plain10 c o _ hc0 hc ho0 ho').mono ?_
            rintro e w' ⟨rfl, hw⟩; obtain rfl := hw.symm; clear hw
            rw [HE.out]
            go_wp2
            go_ret
            exact ⟨by simp, rfl⟩
          · have hsb : (siz lo o != c) = true := by simp [hs]
            rw [if_pos ⟨h18, hs⟩] at HE
            have hlc : lo < c := by have := le_siz lo o hl0 ho0; omega
            clear hs h18
            go_wp2_with fail
            refine (size9 lo o _ hl0 (by omega) ho0 ho' (by omega)).mono ?_
            rintro e w' ⟨rfl, hw⟩; obtain rfl := hw.symm; clear hw
            go_wp2_with fail
            refine (plain10 c o _ hc0 hc ho0 ho').mono ?_
            rintro e w' ⟨rfl, hw⟩; obtain rfl := hw.symm; clear hw
            rw [HE.out]
            go_wp2
            go_ret
            exact ⟨by simp, rfl⟩
