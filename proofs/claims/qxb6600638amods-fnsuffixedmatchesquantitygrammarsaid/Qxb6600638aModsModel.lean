import Derived.Test.Qxb6600638aModsLeaves
namespace Go.Proofs.Qxb6600638aMods
open Go.RowKit

theorem hit_of (zs : List Int) (t : Nat) (ht : t < 13) (h1 : (sufB t).size ≤ zs.length) :
    hit zs t = (eqB (zs.drop (zs.length - (sufB t).size)) (sufB t) && dec (zs.take (zs.length - (sufB t).size))) := by
  unfold hit eqB
  rw [sufB_nums t ht, sufB_size t ht] at *
  rw [decide_eq_true h1, Bool.true_and]

theorem hit_short (zs : List Int) (t : Nat) (ht : t < 13) (h1 : zs.length < (sufB t).size) : hit zs t = false := by
  unfold hit
  rw [sufB_size t ht] at h1
  rw [decide_eq_false (by omega)]
  rfl

theorem miss_step (zs : List Int) (k : Nat) (h : ∀ j, j < k → hit zs j = false) (h' : hit zs k = false) : ∀ j, j < k + 1 → hit zs j = false := by
  intro j hj
  by_cases e : j = k
  · rw [e]; exact h'
  · exact h j (by omega)

theorem mdl_no (zs : List Int) (h : ∀ j, j < 13 → hit zs j = false) : mdl zs = false := by
  unfold mdl
  rw [List.any_eq_false]
  intro t ht
  rw [h t (List.mem_range.1 ht)]
  simp

theorem mdl_yes (zs : List Int) (t : Nat) (ht : t < 13) (h : hit zs t = true) : mdl zs = true := by
  unfold mdl
  rw [List.any_eq_true]
  exact ⟨t, List.mem_range.2 ht, h⟩

theorem cells_drop {g : Nat} {zs : List Int} {w : World} (h : ∀ i, i < zs.length → w.cell? ⟨g, i, none⟩ = some (.int .u8 (zs.getD i 0))) (lo n : Nat) :
    ∀ i, i < (zs.drop lo).length → (w.drewN n).cell? ⟨g, lo + i, none⟩ = some (.int .u8 ((zs.drop lo).getD i 0)) := by
  intro i hi
  rw [List.length_drop] at hi
  rw [World.cell?_drewN, h (lo + i) (by omega)]
  simp [List.getD]

theorem dec_take (g : Nat) (zs : List Int) (m cap : Nat) (w : World) (hn : zs.length ≤ 1048576) (hm : m ≤ zs.length)
    (hc : ∀ i, i < zs.length → w.cell? ⟨g, i, none⟩ = some (.int .u8 (zs.getD i 0))) :
    Calls Trym.prog 32 #[.slice (some ⟨g, 0, none⟩) m cap] w fun e w' => e = .returned (.bool (dec (zs.take m))) ∧ w' = w := by
  have hl : (zs.take m).length = m := by simp; omega
  have := decimal32 g 0 cap (zs.take m) w (by rw [hl]; omega) (by
    intro i hi
    rw [hl] at hi
    rw [Nat.zero_add, hc i (by omega)]
    simp [List.getD, hi])
  rw [hl] at this
  exact this

set_option maxHeartbeats 1000000 in
theorem model12 (g : Nat) (zs : List Int) (w : World) (hn : zs.length ≤ 1048576) (hp : 1 ≤ zs.length)
    (hc : ∀ i, i < zs.length → w.cell? ⟨g, i, none⟩ = some (.int .u8 (zs.getD i 0))) :
    Calls Trym.prog 12 #[.slice (some ⟨g, 0, none⟩) zs.length zs.length] w fun e w' => e = .returned (.bool (mdl zs)) ∧ ∃ n, w' = w.drewN n := by
  have HCC : Hid (∀ i, i < zs.length → w.cell? ⟨g, i, none⟩ = some (.int .u8 (zs.getD i 0))) := hc
  clear hc
  go_enter Trym.func12, Trym.ntmps12
  go_wp2
  go_loopw [3] (fun i wr => ∃ k n : Nat, k ≤ 13 ∧ i = .int .i64 k ∧ (∀ j, j < k → hit zs j = false) ∧ wr = w.drewN n)
    (fun i _ => 13 - (intOf i).toNat)
  case atStart => exact ⟨0, 0, Nat.zero_le _, rfl, by omega, rfl⟩
  case round =>
    obtain ⟨k, n, hk, rfl, hall, rfl⟩ := hrel
    have HA : Hid (∀ j, j < k → hit zs j = false) := hall
    clear hall
    by_cases hlt : k < 13
    · have hb := sufB_bd k hlt
      by_cases h1 : (sufB k).size ≤ zs.length
      · have HH : Hid (_ = _) := hit_of zs k hlt h1
        go_wp2_with fail
        refine (suffix30 k hlt _).mono ?_
        rintro e w' ⟨rfl, rfl⟩
        go_wp2_with fail
        rw [show zs.length - (zs.length - (sufB k).size) = (sufB k).size from by omega]
        refine (eqStr31 g (zs.length - (sufB k).size) (sufB k).size (zs.drop (zs.length - (sufB k).size)) (sufB k) _ (by simp; omega) (by simp; omega) (by as_aux_lemma => exact cells_drop HCC.out _ _)).mono ?_
        rintro e w1 ⟨rfl, n1, rfl⟩
        obtain ⟨eb, heb⟩ : ∃ eb, eb = eqB (zs.drop (zs.length - (sufB k).size)) (sufB k) := ⟨_, rfl⟩
        rw [← heb]
        rw [← heb] at HH
        clear heb
        cases eb
        · have HF : Hid (hit zs k = false) := by show hit zs k = false; rw [HH.out]; rfl
          go_wp2_with fail
          go_roundw
          case rel => exact ⟨k + 1, _, by omega, by go_num, miss_step zs k HA.out HF.out, rfl⟩
          case measure => simp [intOf]; omega
        · go_wp2_with fail
          refine (dec_take g zs (zs.length - (sufB k).size) zs.length _ hn (by omega) (by as_aux_lemma => exact HCC.out)).mono ?_
          rintro e w2 ⟨rfl, rfl⟩
          obtain ⟨db, hdb⟩ : ∃ db, db = dec (zs.take (zs.length - (sufB k).size)) := ⟨_, rfl⟩
          rw [← hdb]
          rw [← hdb] at HH
          clear hdb
          cases db
          · have HF : Hid (hit zs k = false) := by show hit zs k = false; rw [HH.out]; rfl
            go_wp2_with fail
            go_roundw
            case rel => exact ⟨k + 1, _, by omega, by go_num, miss_step zs k HA.out HF.out, rfl⟩
            case measure => simp [intOf]; omega
          · have HF : Hid (hit zs k = true) := by show hit zs k = true; rw [HH.out]; rfl
            go_wp2_with fail
            go_ret
            exact ⟨by rw [mdl_yes zs k hlt HF.out]; rfl, _, rfl⟩
      · have HF : Hid (hit zs k = false) := hit_short zs k hlt (by omega)
        go_wp2_with fail
        refine (suffix30 k hlt _).mono ?_
        rintro e w' ⟨rfl, rfl⟩
        go_wp2_with fail
        go_roundw
        case rel => exact ⟨k + 1, _, by omega, by go_num, miss_step zs k HA.out HF.out, rfl⟩
        case measure => simp [intOf]; omega
    · go_wp2
      go_ret
      obtain rfl : k = 13 := by omega
      exact ⟨by rw [mdl_no zs HA.out]; rfl, _, rfl⟩
