import Derived.Test.Qxb6600638aModsLeaves
namespace Go.Proofs.Qxb6600638aMods
open Go.RowKit

/-- The thirteen suffixes as bytes. -/
def sufU : List (List UInt8) := [[75, 105], [77, 105], [71, 105], [84, 105], [80, 105], [69, 105], [109], [107], [77], [71], [84], [80], [69]]

theorem ofNums_eq (ys : List Int) (hr : ∀ x ∈ ys, 0 ≤ x ∧ x < 256) (u : List UInt8) : (strOfNums ys).toList = u ↔ ys = u.map fun c => (c.toNat : Int) := by
  have e : (strOfNums ys).toList = ys.map fun n => UInt8.ofNat n.toNat := by
    rw [← strOfNums_data, ByteArray.toList_eq]
  rw [e]
  constructor
  · rintro rfl
    rw [List.map_map]
    conv => lhs; rw [← List.map_id ys]
    apply List.map_congr_left
    intro x hx
    have := hr x hx
    simp only [id, Function.comp, UInt8.toNat_ofNat']
    omega
  · rintro rfl
    rw [List.map_map]
    conv => rhs; rw [← List.map_id u]
    apply List.map_congr_left
    intro x _
    simp [Function.comp]

theorem contains_u (ys : List Int) (hr : ∀ x ∈ ys, 0 ≤ x ∧ x < 256) : sufs.contains ys = sufU.any fun u => (strOfNums ys).toList == u := by
  have e : sufs = sufU.map fun u => u.map fun c => (c.toNat : Int) := by decide +kernel
  rw [Bool.eq_iff_iff, List.contains_iff_mem, e, List.mem_map, List.any_eq_true]
  constructor
  · rintro ⟨u, hu, rfl⟩
    exact ⟨u, hu, beq_iff_eq.2 ((ofNums_eq _ hr u).2 rfl)⟩
  · rintro ⟨u, hu, h⟩
    exact ⟨u, hu, ((ofNums_eq _ hr u).1 (beq_iff_eq.1 h)).symm⟩

theorem absurd_tf {b : Bool} {p : Prop} (h1 : b = true) (h2 : b = false) : p := by rw [h1] at h2; cases h2

theorem dig_step (zs : List Int) (a k : Nat) (h : ∀ j, j < k → dig (zs.getD (a + j) 0) = true) (h' : dig (zs.getD (a + k) 0) = true) : ∀ j, j < k + 1 → dig (zs.getD (a + j) 0) = true := by
  intro j hj
  by_cases e : j = k
  · rw [e]; exact h'
  · exact h j (by omega)

theorem getD_drop (zs : List Int) (a j : Nat) : (zs.drop a).getD j 0 = zs.getD (a + j) 0 := by simp [List.getD]

theorem cells_from0 {g : Nat} {zs : List Int} {w : World} (h : ∀ i, i < zs.length → w.cell? ⟨g, i, none⟩ = some (.int .u8 (zs.getD i 0))) (lo : Nat) :
    ∀ i, i < zs.length - lo → w.cell? ⟨g, lo + i, none⟩ = some (.int .u8 ((zs.drop lo).getD i 0)) := by
  intro i hi
  rw [h (lo + i) (by omega), getD_drop]

/-- string(v[lo:]), whatever lo. -/
theorem conv_at {g : Nat} {zs : List Int} {w : World} (h : ∀ i, i < zs.length → w.cell? ⟨g, i, none⟩ = some (.int .u8 (zs.getD i 0))) (lo : Nat) (_hlo : lo < zs.length) :
    (convert 22 9 (.slice (some ⟨g, lo, none⟩) (zs.length - lo) (zs.length - lo))).run Trym.prog w = .ok (.string (strOfNums (zs.drop lo))) w :=
  run_convert_bytes_arg (P := Trym.prog) w 22 5 Trym.underlying22 Trym.underlying5 g lo (zs.length - lo) (zs.length - lo) (zs.drop lo) (by simp) (cells_from0 h lo) 9 Trym.underlying9

theorem conv_end (g : Nat) (zs : List Int) (w : World) (m : Nat) (hm : m = zs.length) :
    (convert 22 9 (.slice (some ⟨g, 0, none⟩) (zs.length - m) (zs.length - m))).run Trym.prog w = .ok (.string (strOfNums (zs.drop zs.length))) w := by
  have := run_convert_bytes_arg (P := Trym.prog) w 22 5 Trym.underlying22 Trym.underlying5 g 0 0 0 [] rfl (by intro i hi; omega) 9 Trym.underlying9
  subst hm
  rw [Nat.sub_self, this, List.drop_length]

set_option maxHeartbeats 4000000 in
theorem suffixed29 (g : Nat) (zs : List Int) (w : World) (hn : zs.length ≤ 1048576) (hp : 1 ≤ zs.length) (hr : ∀ x ∈ zs, 0 ≤ x ∧ x < 256)
    (hc : ∀ i, i < zs.length → w.cell? ⟨g, i, none⟩ = some (.int .u8 (zs.getD i 0))) :
    Calls Trym.prog 29 #[.slice (some ⟨g, 0, none⟩) zs.length zs.length] w fun e w' => e = .returned (.bool (sfx zs)) ∧ w' = w := by
  have HCC : Hid (∀ i, i < zs.length → w.cell? ⟨g, i, none⟩ = some (.int .u8 (zs.getD i 0))) := hc
  clear hc
  have HU : Hid (∀ lo, sufs.contains (zs.drop lo) = sufU.any fun u => (strOfNums (zs.drop lo)).toList == u) := fun lo => contains_u _ (fun x hx => hr x (List.mem_of_mem_drop hx))
  clear hr
  go_enter Trym.func29, Trym.ntmps29
  go_wp2
  go_loop [3] (fun i => ∃ k : Nat, k ≤ zs.length ∧ i = .int .i64 k ∧ ∀ j, j < k → dig (zs.getD (0 + j) 0) = true) (fun i => zs.length - (intOf i).toNat)
  case atStart => exact ⟨0, Nat.zero_le _, rfl, by omega⟩
  case round =>
    obtain ⟨k, hk, rfl, hall⟩ := hrel
    have HA : Hid (∀ j, j < k → dig (zs.getD (0 + j) 0) = true) := hall
    clear hall
    by_cases hlt : k < zs.length
    · obtain ⟨z, hz⟩ : ∃ z, z = zs.getD k 0 := ⟨_, rfl⟩
      have hcx : w.cell? ⟨g, k, none⟩ = some (.int .u8 z) := by rw [hz]; exact HCC.out k hlt
      have HZ : Hid (z = zs.getD k 0) := hz
      clear hz
      go_wp2_with fail
      refine (digit39 _ _).mono ?_
      rintro e w' ⟨rfl, hw⟩; obtain rfl := hw.symm; clear hw
      obtain ⟨db, hdb⟩ : ∃ db, db = dig z := ⟨_, rfl⟩
      rw [← hdb]
      have HD : Hid (db = dig z) := hdb
      clear hdb
      cases db
      · have HL : Hid (lead zs = k) := lead_eq zs k hk (by simpa using HA.out) (fun _ => by rw [← HZ.out]; exact HD.out.symm)
        by_cases h0 : k = 0
        · have h0b : ((k : Int) == 0) = true := beq_iff_eq.2 (by omega)
          have HF : Hid (sfx zs = false) := by show sfx zs = false; rw [sfx, if_pos (by rw [HL.out]; exact h0)]
          go_wp2_with fail
          go_ret
          exact ⟨by rw [HF.out]; rfl, rfl⟩
        · have h0b : ((k : Int) == 0) = false := beq_eq_false_iff_ne.2 (by omega)
          by_cases h46 : z = 46
          · have hzb : (z == 46) = true := by simp [h46]
            have HP : Hid (lead zs < zs.length ∧ zs.getD (lead zs) 0 = 46) := by show _ ∧ _; rw [HL.out, ← HZ.out]; exact ⟨hlt, h46⟩
            have HS1 : Hid (sfx zs = if lead (zs.drop (k + 1)) = 0 then false else sufs.contains (zs.drop (k + 1 + lead (zs.drop (k + 1))))) := by
              show sfx zs = _
              rw [sfx, if_neg (by rw [HL.out]; exact h0), if_pos HP.out, HL.out]
            clear h46 HA HZ HD HP HL
            go_wp2_with fail
            go_loop [4] (fun i => ∃ q : Nat, k + 1 + q ≤ zs.length ∧ i = .int .i64 ((k + 1 + q : Nat) : Int) ∧ ∀ j, j < q → dig (zs.getD (k + 1 + j) 0) = true) (fun i => zs.length - (intOf i).toNat)
            case atStart => exact ⟨0, by omega, by go_num, by omega⟩
            case round =>
              obtain ⟨q, hq, rfl, hall⟩ := hrel
              have HA : Hid (∀ j, j < q → dig (zs.getD (k + 1 + j) 0) = true) := hall
              clear hall
              by_cases hlt2 : k + 1 + q < zs.length
              · obtain ⟨z2, hz2⟩ : ∃ z2, z2 = zs.getD (k + 1 + q) 0 := ⟨_, rfl⟩
                have hcx2 : w.cell? ⟨g, k + 1 + q, none⟩ = some (.int .u8 z2) := by rw [hz2]; exact HCC.out _ hlt2
                have HZ2 : Hid (z2 = zs.getD (k + 1 + q) 0) := hz2
                clear hz2
                go_wp2_with fail
                refine (digit39 _ _).mono ?_
                rintro e w' ⟨rfl, hw⟩; obtain rfl := hw.symm; clear hw
                obtain ⟨db, hdb⟩ : ∃ db, db = dig z2 := ⟨_, rfl⟩
                rw [← hdb]
                have HD : Hid (db = dig z2) := hdb
                clear hdb
                cases db
                · have HL : Hid (lead (zs.drop (k + 1)) = q) := lead_eq _ q (by rw [List.length_drop]; omega) (fun j hj => by rw [getD_drop]; exact HA.out j hj) (fun _ => by rw [getD_drop, ← HZ2.out]; exact HD.out.symm)
                  by_cases hq0 : q = 0
                  · have hqb : (((k + 1 + q : Nat) : Int) == (k : Int) + 1) = true := beq_iff_eq.2 (by omega)
                    have HF : Hid (sfx zs = false) := by show sfx zs = false; rw [HS1.out, if_pos (by rw [HL.out]; exact hq0)]
                    clear hq0
                    go_wp2_with fail
                    go_ret
                    exact ⟨by rw [HF.out]; rfl, rfl⟩
                  · have hqb : (((k + 1 + q : Nat) : Int) == (k : Int) + 1) = false := beq_eq_false_iff_ne.2 (by omega)
                    have HF : Hid (sfx zs = sufU.any fun u => (strOfNums (zs.drop (k + 1 + q))).toList == u) := by
                      show sfx zs = _
                      rw [HS1.out, HL.out, if_neg hq0]
                      exact HU.out _
                    have hcv := conv_at HCC.out (k + 1 + q) hlt2
                    obtain ⟨S, hS⟩ : ∃ S, S = strOfNums (zs.drop (k + 1 + q)) := ⟨_, rfl⟩
                    rw [← hS] at hcv HF
                    clear hS HU HA HZ2 HD HL hq0
                    go_wp2_with fail
                    all_goals first
                      | exact absurd_tf (b := S.toList == [75, 105]) (by assumption) (by assumption)
                      | exact absurd_tf (b := S.toList == [77, 105]) (by assumption) (by assumption)
                      | exact absurd_tf (b := S.toList == [71, 105]) (by assumption) (by assumption)
                      | exact absurd_tf (b := S.toList == [84, 105]) (by assumption) (by assumption)
                      | exact absurd_tf (b := S.toList == [80, 105]) (by assumption) (by assumption)
                      | exact absurd_tf (b := S.toList == [69, 105]) (by assumption) (by assumption)
                      | exact absurd_tf (b := S.toList == [109]) (by assumption) (by assumption)
                      | exact absurd_tf (b := S.toList == [107]) (by assumption) (by assumption)
                      | exact absurd_tf (b := S.toList == [77]) (by assumption) (by assumption)
                      | exact absurd_tf (b := S.toList == [71]) (by assumption) (by assumption)
                      | exact absurd_tf (b := S.toList == [84]) (by assumption) (by assumption)
                      | exact absurd_tf (b := S.toList == [80]) (by assumption) (by assumption)
                      | exact absurd_tf (b := S.toList == [69]) (by assumption) (by assumption)
                      | skip
                    all_goals go_ret
                    all_goals (refine ⟨?_, rfl⟩; rw [HF.out]; simp only [sufU, List.any_cons, List.any_nil, Bool.or_false, Bool.or_true, Bool.true_or, *]; rfl)
                · go_wp2_with fail
                  go_round
                  case rel => exact ⟨q + 1, by omega, by go_num, dig_step zs (k + 1) q HA.out (by rw [← HZ2.out]; exact HD.out.symm)⟩
                  case measure => simp [intOf]; omega
              · have HE : Hid (k + 1 + q = zs.length) := by show k + 1 + q = zs.length; omega
                have HL : Hid (lead (zs.drop (k + 1)) = q) := lead_eq _ q (by rw [List.length_drop]; omega) (fun j hj => by rw [getD_drop]; exact HA.out j hj) (fun h => by rw [List.length_drop] at h; omega)
                by_cases hq0 : q = 0
                · have hqb : (((k + 1 + q : Nat) : Int) == (k : Int) + 1) = true := beq_iff_eq.2 (by omega)
                  have HF : Hid (sfx zs = false) := by show sfx zs = false; rw [HS1.out, if_pos (by rw [HL.out]; exact hq0)]
                  clear hq0
                  go_wp2_with fail
                  go_ret
                  exact ⟨by rw [HF.out]; rfl, rfl⟩
                · have hqb : (((k + 1 + q : Nat) : Int) == (k : Int) + 1) = false := beq_eq_false_iff_ne.2 (by omega)
                  have HF : Hid (sfx zs = sufU.any fun u => (strOfNums (zs.drop zs.length)).toList == u) := by
                    show sfx zs = _
                    rw [HS1.out, HL.out, if_neg hq0, HE.out]
                    exact HU.out _
                  have hcv := conv_end g zs w (k + 1 + q) (by omega)
                  obtain ⟨S, hS⟩ : ∃ S, S = strOfNums (zs.drop zs.length) := ⟨_, rfl⟩
                  rw [← hS] at hcv HF
                  clear hS HU HA HL hq0
                  go_wp2_with fail
                  all_goals first
                    | exact absurd_tf (b := S.toList == [75, 105]) (by assumption) (by assumption)
                    | exact absurd_tf (b := S.toList == [77, 105]) (by assumption) (by assumption)
                    | exact absurd_tf (b := S.toList == [71, 105]) (by assumption) (by assumption)
                    | exact absurd_tf (b := S.toList == [84, 105]) (by assumption) (by assumption)
                    | exact absurd_tf (b := S.toList == [80, 105]) (by assumption) (by assumption)
                    | exact absurd_tf (b := S.toList == [69, 105]) (by assumption) (by assumption)
                    | exact absurd_tf (b := S.toList == [109]) (by assumption) (by assumption)
                    | exact absurd_tf (b := S.toList == [107]) (by assumption) (by assumption)
                    | exact absurd_tf (b := S.toList == [77]) (by assumption) (by assumption)
                    | exact absurd_tf (b := S.toList == [71]) (by assumption) (by assumption)
                    | exact absurd_tf (b := S.toList == [84]) (by assumption) (by assumption)
                    | exact absurd_tf (b := S.toList == [80]) (by assumption) (by assumption)
                    | exact absurd_tf (b := S.toList == [69]) (by assumption) (by assumption)
                    | skip
                  all_goals go_ret
                  all_goals (refine ⟨?_, rfl⟩; rw [HF.out]; simp only [sufU, List.any_cons, List.any_nil, Bool.or_false, Bool.or_true, Bool.true_or, *]; rfl)
          · have hzb : (z == 46) = false := by simp [h46]
            have hcv := conv_at HCC.out k hlt
            have HF : Hid (sfx zs = sufU.any fun u => (strOfNums (zs.drop k)).toList == u) := by
              show sfx zs = _
              rw [sfx, if_neg (by rw [HL.out]; exact h0), if_neg (by rintro ⟨_, h⟩; rw [HL.out, ← HZ.out] at h; exact h46 h), HL.out]
              exact HU.out k
            obtain ⟨S, hS⟩ : ∃ S, S = strOfNums (zs.drop k) := ⟨_, rfl⟩
            rw [← hS] at hcv HF
            clear hS h46 HU HA HZ HD HL
            go_wp2_with fail
            all_goals first
              | exact absurd_tf (b := S.toList == [75, 105]) (by assumption) (by assumption)
              | exact absurd_tf (b := S.toList == [77, 105]) (by assumption) (by assumption)
              | exact absurd_tf (b := S.toList == [71, 105]) (by assumption) (by assumption)
              | exact absurd_tf (b := S.toList == [84, 105]) (by assumption) (by assumption)
              | exact absurd_tf (b := S.toList == [80, 105]) (by assumption) (by assumption)
              | exact absurd_tf (b := S.toList == [69, 105]) (by assumption) (by assumption)
              | exact absurd_tf (b := S.toList == [109]) (by assumption) (by assumption)
              | exact absurd_tf (b := S.toList == [107]) (by assumption) (by assumption)
              | exact absurd_tf (b := S.toList == [77]) (by assumption) (by assumption)
              | exact absurd_tf (b := S.toList == [71]) (by assumption) (by assumption)
              | exact absurd_tf (b := S.toList == [84]) (by assumption) (by assumption)
              | exact absurd_tf (b := S.toList == [80]) (by assumption) (by assumption)
              | exact absurd_tf (b := S.toList == [69]) (by assumption) (by assumption)
              | skip
            all_goals go_ret
            all_goals (refine ⟨?_, rfl⟩; rw [HF.out]; simp only [sufU, List.any_cons, List.any_nil, Bool.or_false, Bool.or_true, Bool.true_or, *]; rfl)
      · go_wp2_with fail
        go_round
        case rel => exact ⟨k + 1, by omega, by go_num, dig_step zs 0 k HA.out (by rw [Nat.zero_add, ← HZ.out]; exact HD.out.symm)⟩
        case measure => simp [intOf]; omega
    · have HL : Hid (lead zs = k) := lead_eq zs k hk (by simpa using HA.out) (fun h => by omega)
      have h0b : ((k : Int) == 0) = false := beq_eq_false_iff_ne.2 (by omega)
      have HF : Hid (sfx zs = sufU.any fun u => (strOfNums (zs.drop zs.length)).toList == u) := by
        show sfx zs = _
        rw [sfx, if_neg (by rw [HL.out]; omega), if_neg (by rintro ⟨h, _⟩; rw [HL.out] at h; omega), HL.out, show k = zs.length from by omega]
        exact HU.out _
      have hcv := conv_end g zs w k (by omega)
      obtain ⟨S, hS⟩ : ∃ S, S = strOfNums (zs.drop zs.length) := ⟨_, rfl⟩
      rw [← hS] at hcv HF
      clear hS HU HA HL
      go_wp2_with fail
      all_goals first
        | exact absurd_tf (b := S.toList == [75, 105]) (by assumption) (by assumption)
        | exact absurd_tf (b := S.toList == [77, 105]) (by assumption) (by assumption)
        | exact absurd_tf (b := S.toList == [71, 105]) (by assumption) (by assumption)
        | exact absurd_tf (b := S.toList == [84, 105]) (by assumption) (by assumption)
        | exact absurd_tf (b := S.toList == [80, 105]) (by assumption) (by assumption)
        | exact absurd_tf (b := S.toList == [69, 105]) (by assumption) (by assumption)
        | exact absurd_tf (b := S.toList == [109]) (by assumption) (by assumption)
        | exact absurd_tf (b := S.toList == [107]) (by assumption) (by assumption)
        | exact absurd_tf (b := S.toList == [77]) (by assumption) (by assumption)
        | exact absurd_tf (b := S.toList == [71]) (by assumption) (by assumption)
        | exact absurd_tf (b := S.toList == [84]) (by assumption) (by assumption)
        | exact absurd_tf (b := S.toList == [80]) (by assumption) (by assumption)
        | exact absurd_tf (b := S.toList == [69]) (by assumption) (by assumption)
        | skip
      all_goals go_ret
      all_goals (refine ⟨?_, rfl⟩; rw [HF.out]; simp only [sufU, List.any_cons, List.any_nil, Bool.or_false, Bool.or_true, Bool.true_or, *]; rfl)
