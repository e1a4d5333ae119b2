import Derived.Test.Qxb6600638aModsClone
import Derived.Test.Qxb6600638aModsModel
import Derived.Test.Qxb6600638aModsSuff
import Derived.OpenShut
namespace Go.Proofs.Qxb6600638aMods
open Go.RowKit

theorem bytes9_no (a : Option Addr) (len cap : Nat) (w : World) (h : 1048576 < len) : Calls Trym.prog 9 #[.slice a len cap] w fun e w' => e = .returned (.bool false) ∧ w' = w := by
  have h' : (1048576 : Int) < (len : Int) := by omega
  go_enter Trym.func9, Trym.ntmps9
  go_wp2
  go_ret
  exact ⟨rfl, rfl⟩

theorem bytes9_yes (a : Option Addr) (len cap : Nat) (w : World) (h : len ≤ 1048576) : Calls Trym.prog 9 #[.slice a len cap] w fun e w' => e = .returned (.bool true) ∧ w' = w := by
  have h' : (len : Int) ≤ (1048576 : Int) := by omega
  go_enter Trym.func9, Trym.ntmps9
  go_wp2
  go_ret
  exact ⟨rfl, rfl⟩

/-- An empty slice that is not nil. -/
theorem clone_empty (x : Addr) (cap : Nat) (w : World) :
    Calls Trym.prog 10 #[.slice (some x) 0 cap] w fun e w' => e = .returned (.slice (some ⟨w.heap.size, 0, none⟩) 0 0) ∧ Below w.heap.size w w' := by
  have q22 : ∀ (w : World) (a : Option Addr) (n c n' c' : Nat), (binOp .eql 22 (.slice a n c) (.slice none n' c')).run Trym.prog w = .ok (.bool a.isNone) w := fun w a n c n' c' => Lib.run_eql_slice_nil w 22 5 a n c n' c' Trym.underlying22
  obtain ⟨i0, hi, hz0, hz1, hz2⟩ := info_parts Trym.info5
  go_enter Trym.func10, Trym.ntmps10
  go_wp2_with (at_make; refine wpList_make_full _ rfl _ _ 22 rfl w.heap.size 5 i0 (.int .u8 0) 1 Trym.underlying22 hi hz0 hz1 _ _ _ _ 0 rfl rfl rfl rfl (by omega) (by unfold maxLen; omega) (Nat.le_refl _) ?_)
  intro w1 hown hgrow
  have hbel : Below w.heap.size w w1 := (Below.refl _ _).grown hgrow (Nat.le_refl _) (by intro k h; cases h)
  clear hgrow hi hz0 hz1 hz2 hown
  go_wp2
  refine wp_loop_rounds 1 ?_
  rw [rounds_succ]
  go_wp2
  go_ret
  exact ⟨rfl, hbel⟩

theorem suffixed_empty (a : Option Addr) (w : World) : Calls Trym.prog 29 #[.slice a 0 0] w fun e w' => e = .returned (.bool false) ∧ w' = w := by
  go_enter Trym.func29, Trym.ntmps29
  go_wp2
  refine wp_loop_rounds 1 ?_
  rw [rounds_succ]
  go_wp2
  go_ret
  exact ⟨rfl, rfl⟩

set_option maxHeartbeats 400000 in
theorem model_empty (a : Option Addr) (w : World) : Calls Trym.prog 12 #[.slice a 0 0] w fun e w' => e = .returned (.bool false) ∧ w' = w := by
  go_enter Trym.func12, Trym.ntmps12
  go_wp2
  go_loop [3] (fun i => ∃ k : Nat, k ≤ 13 ∧ i = .int .i64 k) (fun i => 13 - (intOf i).toNat)
  case atStart => exact ⟨0, Nat.zero_le _, rfl⟩
  case round =>
    obtain ⟨k, hk, rfl⟩ := hrel
    by_cases hlt : k < 13
    · have hne : ¬ sufB k = ByteArray.empty := fun e => by have hb := (sufB_bd k hlt).1; rw [e] at hb; exact absurd hb (by decide)
      have hne' : (sufB k).toList.isEmpty = false := by rw [← decide_eq_emptyBytes]; exact decide_eq_false hne
      have hb := (sufB_bd k hlt).1
      go_wp2_with fail
      refine (suffix30 k hlt _).mono ?_
      rintro e w' ⟨rfl, rfl⟩
      go_wp2_with fail
      go_round
      case rel => exact ⟨k + 1, by omega, by go_num⟩
      case measure => simp [intOf]; omega
    · go_wp2
      go_ret
      exact ⟨rfl, rfl⟩

theorem door11 {args : Array Value} {w : World} {v : Value} (a : Option Addr) (n c : Nat) (hargs : args = #[.slice a n c]) (b : Bool) (hv : v = .bool b)
    (h : Calls Trym.prog 29 args w fun e w' => e = .returned v ∧ w' = w) : Calls Trym.prog 11 args w fun e w' => e = .returned v ∧ w' = w := by
  subst hargs hv
  go_enter Trym.func11, Trym.ntmps11
  go_wp2_with fail
  refine h.mono ?_
  rintro e w' ⟨rfl, rfl⟩
  go_wp2
  go_ret
  exact ⟨rfl, rfl⟩

theorem long3 (a : Option Addr) (len cap : Nat) (w : World) (h : 1048576 < len) : Calls Trym.prog 3 #[.slice a len cap] w fun e w' => e = .returned (.bool true) ∧ Below w.heap.size w w' := by
  go_enter Trym.func3, Trym.ntmps3
  go_wp2_with fail
  refine (bytes9_no a len cap _ h).mono ?_
  rintro e w' ⟨rfl, rfl⟩
  go_wp2
  go_ret
  exact ⟨rfl, Below.refl _ _⟩

theorem nil3 (w : World) : Calls Trym.prog 3 #[.slice none 0 0] w fun e w' => e = .returned (.bool true) ∧ Below w.heap.size w w' := by
  go_enter Trym.func3, Trym.ntmps3
  go_wp2_with fail
  refine (bytes9_yes none 0 0 _ (by omega)).mono ?_
  rintro e w' ⟨rfl, rfl⟩
  go_wp2_with fail
  refine (clone_nil _).mono ?_
  rintro e w' ⟨rfl, rfl⟩
  go_wp2_with fail
  refine (door11 none 0 0 rfl false rfl (suffixed_empty none _)).mono ?_
  rintro e w' ⟨rfl, rfl⟩
  go_wp2_with fail
  refine (model_empty none _).mono ?_
  rintro e w' ⟨rfl, rfl⟩
  go_wp2
  go_ret
  exact ⟨rfl, Below.refl _ _⟩

theorem empty3 (x : Addr) (cap : Nat) (w : World) : Calls Trym.prog 3 #[.slice (some x) 0 cap] w fun e w' => e = .returned (.bool true) ∧ Below w.heap.size w w' := by
  go_enter Trym.func3, Trym.ntmps3
  go_wp2_with fail
  refine (bytes9_yes (some x) 0 cap _ (by omega)).mono ?_
  rintro e w' ⟨rfl, rfl⟩
  go_wp2_with fail
  refine (clone_empty x cap _).mono ?_
  rintro e w1 ⟨rfl, hb⟩
  go_wp2_with fail
  refine (door11 _ 0 0 rfl false rfl (suffixed_empty _ _)).mono ?_
  rintro e w2 ⟨rfl, rfl⟩
  go_wp2_with fail
  refine (model_empty _ _).mono ?_
  rintro e w3 ⟨rfl, rfl⟩
  go_wp2
  go_ret
  exact ⟨rfl, hb⟩

theorem cells_own {w : World} {base g : Nat} {zs : List Int} (h : w.ownsRow base 5 1 (.slice (some ⟨g, 0, none⟩) zs.length zs.length) zs.length (zs.map (Value.int .u8))) :
    ∀ i, i < zs.length → w.cell? ⟨g, i, none⟩ = some (.int .u8 (zs.getD i 0)) := by
  intro i hi
  rw [h.cellAt i (by omega)]
  simp [List.getD, hi]

set_option maxHeartbeats 400000 in
theorem some3 (b off cap : Nat) (zs : List Int) (w : World) (hn : zs.length ≤ 1048576) (hp : 1 ≤ zs.length) (hr : ∀ x ∈ zs, 0 ≤ x ∧ x < 256)
    (hc : ∀ i, i < zs.length → w.cell? ⟨b, off + i, none⟩ = some (.int .u8 (zs.getD i 0))) :
    Calls Trym.prog 3 #[.slice (some ⟨b, off, none⟩) zs.length cap] w fun e w' => e = .returned (.bool true) ∧ Below w.heap.size w w' := by
  have hb : b < w.heap.size := World.block_lt_of_cell? _ _ (hc 0 (by omega))
  have HCC : Hid (∀ i, i < zs.length → w.cell? ⟨b, off + i, none⟩ = some (.int .u8 (zs.getD i 0))) := hc
  clear hc
  have HR : Hid (∀ x ∈ zs, 0 ≤ x ∧ x < 256) := hr
  clear hr
  go_enter Trym.func3, Trym.ntmps3
  go_wp2_with fail
  refine (bytes9_yes _ zs.length cap _ hn).mono ?_
  rintro e w' ⟨rfl, hw⟩; obtain rfl := hw.symm; clear hw
  go_wp2_with fail
  refine (clone_some b off cap zs w hb hn HCC.out).mono ?_
  rintro e w1 ⟨rfl, hown, hbel⟩
  have HC1 : Hid (∀ i, i < zs.length → w1.cell? ⟨w.heap.size, i, none⟩ = some (.int .u8 (zs.getD i 0))) := cells_own hown
  clear hown
  go_wp2_with fail
  refine (door11 _ _ _ rfl (sfx zs) rfl (suffixed29 w.heap.size zs w1 hn hp HR.out HC1.out)).mono ?_
  rintro e w2 ⟨rfl, hw⟩; obtain rfl := hw.symm; clear hw
  go_wp2_with fail
  refine (model12 w.heap.size zs w1 hn hp HC1.out).mono ?_
  rintro e w3 ⟨rfl, n3, rfl⟩
  rw [sfx_mdl zs]
  go_wp2
  go_ret
  exact ⟨by simp, below_drewN hbel _⟩
