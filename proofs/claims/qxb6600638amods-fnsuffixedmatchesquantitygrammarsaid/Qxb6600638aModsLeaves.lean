import Derived.Test.Qxb6600638aModsRows
import Derived.Test.Qxb6600638aModsPlain
import Derived.WalkKit
import Derived.WalkLawsBesides
import Derived.WalkSpells
import Derived.Laws.BytesArg
import Derived.Deep.QuietTactic
import Derived.BigQuiet
namespace Go.Proofs.Qxb6600638aMods
open Go.RowKit

theorem digit39 (c : Int) (w : World) : Calls Trym.prog 39 #[.int .u8 c] w fun e w' => e = .returned (.bool (dig c)) ∧ w' = w := by
  by_cases h1 : 48 ≤ c
  · by_cases h2 : c ≤ 57
    all_goals
      go_enter Trym.func39, Trym.ntmps39
      go_wp2
      go_ret
      exact ⟨by simp [dig, h1, h2], rfl⟩
  · go_enter Trym.func39, Trym.ntmps39
    go_wp2
    go_ret
    exact ⟨by simp [dig]; omega, rfl⟩

theorem digit14 (c : Int) (w : World) : Calls Trym.prog 14 #[.int .u8 c] w fun e w' => e = .returned (.bool (dig c)) ∧ w' = w := by
  by_cases h1 : 48 ≤ c
  · by_cases h2 : c ≤ 57
    all_goals
      go_enter Trym.func14, Trym.ntmps14
      go_wp2
      go_ret
      exact ⟨by simp [dig, h1, h2], rfl⟩
  · go_enter Trym.func14, Trym.ntmps14
    go_wp2
    go_ret
    exact ⟨by simp [dig]; omega, rfl⟩

/-- A string's bytes as numbers. -/
def nums (s : ByteArray) : List Int := s.data.toList.map fun u => (u.toNat : Int)

theorem nums_length (s : ByteArray) : (nums s).length = s.size := by rw [nums, List.length_map, Array.length_toList]; rfl
theorem nums_at (s : ByteArray) (k : Nat) (h : k < s.size) : (nums s).getD k 0 = ((s[k]'h).toNat : Int) := by
  have h' : k < s.data.toList.length := by rw [Array.length_toList]; exact h
  unfold nums
  rw [List.getD_eq_getElem?_getD, List.getElem?_map, List.getElem?_eq_getElem h']
  rfl

theorem eq_of_all (zs ys : List Int) (hl : zs.length = ys.length) (h : ∀ j, j < zs.length → zs.getD j 0 = ys.getD j 0) : zs = ys := by
  apply List.ext_getElem hl
  intro j h1 h2
  have := h j h1
  simpa [List.getD, h1, h2] using this

theorem all_step (zs ys : List Int) (k : Nat) (h : ∀ j, j < k → zs.getD j 0 = ys.getD j 0) (h' : zs.getD k 0 = ys.getD k 0) : ∀ j, j < k + 1 → zs.getD j 0 = ys.getD j 0 := by
  intro j hj
  by_cases e : j = k
  · rw [e]; exact h'
  · exact h j (by omega)

/-- What zzEqStr answers. -/
def eqB (zs : List Int) (s : ByteArray) : Bool := decide (zs = nums s)

set_option maxHeartbeats 400000 in
/-- zzEqStr at equal lengths. -/
theorem eqStr31 (b off cap : Nat) (zs : List Int) (s : ByteArray) (w : World) (hn : zs.length ≤ 1048576) (hs : zs.length = s.size)
    (hc : ∀ i, i < zs.length → w.cell? ⟨b, off + i, none⟩ = some (.int .u8 (zs.getD i 0))) :
    Calls Trym.prog 31 #[.slice (some ⟨b, off, none⟩) s.size cap, .string s] w fun e w' => e = .returned (.bool (eqB zs s)) ∧ ∃ n, w' = w.drewN n := by
  have hn' : s.size ≤ 1048576 := by omega
  have HS : Hid (zs.length = s.size) := hs
  clear hs
  go_enter Trym.func31, Trym.ntmps31
  go_wp2
  go_loopw [5] (fun i wr => ∃ k n : Nat, k ≤ s.size ∧ i = .int .i64 k ∧ (∀ j, j < k → zs.getD j 0 = (nums s).getD j 0) ∧ wr = w.drewN n)
    (fun i _ => s.size - (intOf i).toNat)
  case atStart => exact ⟨0, 0, Nat.zero_le _, rfl, by omega, rfl⟩
  case round =>
    obtain ⟨k, n, hk, rfl, hall, rfl⟩ := hrel
    have HA : Hid (∀ j, j < k → zs.getD j 0 = (nums s).getD j 0) := hall
    clear hall
    by_cases hlt : k < s.size
    · obtain ⟨z, hz⟩ : ∃ z, z = zs.getD k 0 := ⟨_, rfl⟩
      have hcx : w.cell? ⟨b, off + k, none⟩ = some (.int .u8 z) := by rw [hz]; exact hc k (by rw [HS.out]; exact hlt)
      have HZ : Hid (z = zs.getD k 0) := hz
      clear hz
      have HN : Hid ((nums s).getD k 0 = ((s[k]'hlt).toNat : Int)) := nums_at s k hlt
      by_cases he : z = ((s[k]'hlt).toNat : Int)
      · have hb : (z != ((s[k]'hlt).toNat : Int)) = false := by simp [he]
        have HE : Hid (z = ((s[k]'hlt).toNat : Int)) := he
        clear he
        go_wp2
        go_quiet (fail)
        go_wp2
        go_roundw
        case rel => exact ⟨k + 1, _, by omega, by go_num, all_step _ _ _ HA.out (HZ.out.symm.trans (HE.out.trans HN.out.symm)), rfl⟩
        case measure => simp [intOf]; omega
      · have hb : (z != ((s[k]'hlt).toNat : Int)) = true := by simp [he]
        have HE : Hid (¬ z = ((s[k]'hlt).toNat : Int)) := he
        clear he
        go_wp2
        go_quiet (fail)
        go_wp2
        go_ret
        have e : ¬ zs = nums s := fun e => HE.out (by rw [HZ.out, e]; exact HN.out)
        exact ⟨by rw [eqB, decide_eq_false e]; rfl, _, World.drewN_drewN _ _ _⟩
    · go_wp2
      go_ret
      obtain rfl : k = s.size := by omega
      have e : zs = nums s := eq_of_all _ _ (by rw [HS.out, nums_length]) (by rw [HS.out]; exact HA.out)
      exact ⟨by rw [eqB, decide_eq_true e]; rfl, _, rfl⟩

/-! ### zzDecimal -/
theorem count_step (zs : List Int) (k : Nat) (h : k < zs.length) : (zs.take (k + 1)).count 46 = (zs.take k).count 46 + if zs.getD k 0 = 46 then 1 else 0 := by
  rw [List.take_succ_eq_append_getElem h, List.count_append]
  have e : zs.getD k 0 = zs[k] := by simp [List.getD, h]
  rw [e]
  by_cases h' : zs[k] = 46 <;> simp [h']

theorem ok_step (zs : List Int) (k : Nat) (h : ∀ j, j < k → okAt zs j = true) (h' : okAt zs k = true) : ∀ j, j < k + 1 → okAt zs j = true := by
  intro j hj
  by_cases e : j = k
  · rw [e]; exact h'
  · exact h j (by omega)

theorem dec_bad (zs : List Int) (k : Nat) (hk : k < zs.length) (h : okAt zs k = false) : dec zs = false := by
  have : ¬ ∀ k, k < zs.length → okAt zs k = true := fun hall => by rw [hall k hk] at h; cases h
  simp [dec, this]

theorem dec_all (zs : List Int) (h0 : zs ≠ []) (h : ∀ j, j < zs.length → okAt zs j = true) : dec zs = decide (zs.count 46 ≤ 1) := by
  simp only [dec, decide_eq_true h0, decide_eq_true h, Bool.true_and]

set_option maxHeartbeats 400000 in
theorem decimal32 (b off cap : Nat) (zs : List Int) (w : World) (hn : zs.length ≤ 1048576)
    (hc : ∀ i, i < zs.length → w.cell? ⟨b, off + i, none⟩ = some (.int .u8 (zs.getD i 0))) :
    Calls Trym.prog 32 #[.slice (some ⟨b, off, none⟩) zs.length cap] w fun e w' => e = .returned (.bool (dec zs)) ∧ w' = w := by
  have HCC : Hid (∀ i, i < zs.length → w.cell? ⟨b, off + i, none⟩ = some (.int .u8 (zs.getD i 0))) := hc
  clear hc
  by_cases h0 : zs.length = 0
  · have h0b : ((zs.length : Int) == 0) = true := by simp [h0]
    have H0 : Hid (zs.length = 0) := h0
    clear h0
    go_enter Trym.func32, Trym.ntmps32
    go_wp2
    go_ret
    have e : zs = [] := List.eq_nil_of_length_eq_zero H0.out
    exact ⟨by rw [e]; rfl, rfl⟩
  · have h0b : ((zs.length : Int) == 0) = false := by simp; exact fun e => h0 (by simp [e])
    have hne : zs ≠ [] := fun e => h0 (by simp [e])
    have HNE : Hid (zs ≠ []) := hne
    clear hne
    go_enter Trym.func32, Trym.ntmps32
    go_wp2
    go_loop [3, 4] (fun d i => ∃ k : Nat, k ≤ zs.length ∧ i = .int .i64 k ∧ d = .int .i64 ((zs.take k).count 46 : Nat) ∧ ∀ j, j < k → okAt zs j = true)
      (fun _ i => zs.length - (intOf i).toNat)
    case atStart => exact ⟨0, Nat.zero_le _, rfl, rfl, by omega⟩
    case round =>
      obtain ⟨k, hk, rfl, rfl, hall⟩ := hrel
      have HA : Hid (∀ j, j < k → okAt zs j = true) := hall
      clear hall
      by_cases hlt : k < zs.length
      · obtain ⟨z, hz⟩ : ∃ z, z = zs.getD k 0 := ⟨_, rfl⟩
        have hcx : w.cell? ⟨b, off + k, none⟩ = some (.int .u8 z) := by rw [hz]; exact HCC.out k hlt
        have HC : Hid ((zs.take (k + 1)).count 46 = (zs.take k).count 46 + if zs.getD k 0 = 46 then 1 else 0) := count_step zs k hlt
        have hcl : (zs.take k).count 46 ≤ k := Nat.le_trans List.count_le_length (by simp; omega)
        have HZ : Hid (z = zs.getD k 0) := hz
        clear hz
        obtain ⟨d, hd⟩ : ∃ d, d = (zs.take k).count 46 := ⟨_, rfl⟩
        rw [← hd] at hcl
        rw [← hd]
        have HD : Hid (d = (zs.take k).count 46) := hd
        clear hd
        by_cases h46 : z = 46
        · have hzb : (z == 46) = true := by simp [h46]
          have HZ46 : Hid (z = 46) := h46
          clear h46
          by_cases hk0 : k = 0 ∨ k = zs.length - 1
          · have hbad : okAt zs k = false := by
              unfold okAt; rw [if_pos (by rw [← HZ.out]; exact HZ46.out)]
              rcases hk0 with h | h <;> simp [h]
            have HB := (show Hid (_ = _) from dec_bad zs k hlt hbad)
            clear hbad
            by_cases hk1 : k = 0
            · have g1 : ((k : Int) == 0) = true := by simp [hk1]
              clear hk0 hk1
              go_wp2
              go_ret
              exact ⟨by rw [HB.out]; rfl, rfl⟩
            · have g1 : ((k : Int) == 0) = false := beq_eq_false_iff_ne.2 (by omega)
              have g2 : ((k : Int) == (zs.length : Int) - 1) = true := beq_iff_eq.2 (by omega)
              clear hk0 hk1
              go_wp2
              go_ret
              exact ⟨by rw [HB.out]; rfl, rfl⟩
          · have hk1 : ¬ k = 0 := fun h => hk0 (Or.inl h)
            have hk2 : ¬ k = zs.length - 1 := fun h => hk0 (Or.inr h)
            clear hk0
            have g1 : ((k : Int) == 0) = false := beq_eq_false_iff_ne.2 (by omega)
            have g2 : ((k : Int) == (zs.length : Int) - 1) = false := beq_eq_false_iff_ne.2 (by omega)
            have hok : Hid (okAt zs k = true) := by
              show okAt zs k = true
              unfold okAt; rw [if_pos (by rw [← HZ.out]; exact HZ46.out)]; simp [hk1, hk2]
            go_wp2
            go_round
            case rel => exact ⟨k + 1, by omega, by go_num, by rw [HC.out, if_pos (by rw [← HZ.out]; exact HZ46.out), ← HD.out]; go_num, ok_step zs k HA.out hok.out⟩
            case measure => simp [intOf]; omega
        · have hzb : (z == 46) = false := by simp [h46]
          have HZ46 : Hid (¬ z = 46) := h46
          clear h46
          by_cases hd : dig z = true
          · have hok : Hid (okAt zs k = true) := by
              show okAt zs k = true
              unfold okAt; rw [if_neg (by rw [← HZ.out]; exact HZ46.out), ← HZ.out]; exact hd
            go_wp2_with (go_at_call 14; refine (digit14 _ _).mono ?_; rintro e w' ⟨rfl, rfl⟩)
            go_round
            case rel => exact ⟨k + 1, by omega, by go_num, by rw [HC.out, if_neg (by rw [← HZ.out]; exact HZ46.out), ← HD.out]; rfl, ok_step zs k HA.out hok.out⟩
            case measure => simp [intOf]; omega
          · have hd' : dig z = false := by simpa using hd
            have hbad : okAt zs k = false := by
              unfold okAt; rw [if_neg (by rw [← HZ.out]; exact HZ46.out), ← HZ.out]; exact hd'
            have HB := (show Hid (_ = _) from dec_bad zs k hlt hbad)
            clear hbad hd
            go_wp2_with (go_at_call 14; refine (digit14 _ _).mono ?_; rintro e w' ⟨rfl, rfl⟩)
            go_ret
            exact ⟨by rw [HB.out]; rfl, rfl⟩
      · have HF : Hid (dec zs = decide (((zs.take k).count 46 : Int) ≤ 1)) := by
          show dec zs = _
          obtain rfl : k = zs.length := by omega
          rw [dec_all zs HNE.out HA.out, List.take_length]
          exact decide_eq_decide.2 (by omega)
        go_wp2
        go_ret
        exact ⟨by rw [HF.out]; rfl, rfl⟩

/-! ### zzQuantitySuffix -/
def sufB : Nat → ByteArray
  | 0 => ⟨#[75, 105]⟩ | 1 => ⟨#[77, 105]⟩ | 2 => ⟨#[71, 105]⟩ | 3 => ⟨#[84, 105]⟩ | 4 => ⟨#[80, 105]⟩ | 5 => ⟨#[69, 105]⟩ | 6 => ⟨#[109]⟩ | 7 => ⟨#[107]⟩ | 8 => ⟨#[77]⟩ | 9 => ⟨#[71]⟩ | 10 => ⟨#[84]⟩ | 11 => ⟨#[80]⟩ | _ => ⟨#[69]⟩

theorem sufB_nums (t : Nat) (h : t < 13) : nums (sufB t) = sufs.getD t [] := by
  have : t = 0 ∨ t = 1 ∨ t = 2 ∨ t = 3 ∨ t = 4 ∨ t = 5 ∨ t = 6 ∨ t = 7 ∨ t = 8 ∨ t = 9 ∨ t = 10 ∨ t = 11 ∨ t = 12 := by omega
  rcases this with rfl | rfl | rfl | rfl | rfl | rfl | rfl | rfl | rfl | rfl | rfl | rfl | rfl <;> decide +kernel

theorem sufB_size (t : Nat) (h : t < 13) : (sufB t).size = (sufs.getD t []).length := by rw [← sufB_nums t h, nums_length]
theorem sufB_bd (t : Nat) (h : t < 13) : 1 ≤ (sufB t).size ∧ (sufB t).size ≤ 2 := by
  have : t = 0 ∨ t = 1 ∨ t = 2 ∨ t = 3 ∨ t = 4 ∨ t = 5 ∨ t = 6 ∨ t = 7 ∨ t = 8 ∨ t = 9 ∨ t = 10 ∨ t = 11 ∨ t = 12 := by omega
  rcases this with rfl | rfl | rfl | rfl | rfl | rfl | rfl | rfl | rfl | rfl | rfl | rfl | rfl <;> decide +kernel

set_option maxHeartbeats 1000000 in
theorem suffix30 (t : Nat) (h : t < 13) (w : World) : Calls Trym.prog 30 #[.int .i64 t] w fun e w' => e = .returned (.string (sufB t)) ∧ w' = w := by
  have : t = 0 ∨ t = 1 ∨ t = 2 ∨ t = 3 ∨ t = 4 ∨ t = 5 ∨ t = 6 ∨ t = 7 ∨ t = 8 ∨ t = 9 ∨ t = 10 ∨ t = 11 ∨ t = 12 := by omega
  rcases this with rfl | rfl | rfl | rfl | rfl | rfl | rfl | rfl | rfl | rfl | rfl | rfl | rfl
  all_goals
    clear h
    go_enter Trym.func30, Trym.ntmps30
    go_wp2
    go_ret
    exact ⟨rfl, rfl⟩
