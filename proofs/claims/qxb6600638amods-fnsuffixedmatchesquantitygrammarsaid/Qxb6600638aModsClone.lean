import Derived.Test.Qxb6600638aModsRows
import Derived.WalkKit
import Derived.WalkLawsBesides
import Derived.WalkSpells
import Derived.Laws.BytesArg
import Derived.Deep.QuietTactic
import Derived.BigQuiet
namespace Go.Proofs.Qxb6600638aMods
open Go.RowKit

theorem Trym.info5 : (Trym.prog.info? 5).map (fun i => (i.zero, i.size, i.bytes)) = some (some (.int .u8 0), 1, 1) := by kernel_rfl

/-- What has been copied behind k rounds. -/
def half {α : Type} (f : α → Value) (z : Value) (zs : List α) (k : Nat) : List Value := (zs.take k).map f ++ List.replicate (zs.length - k) z

theorem half_set {α : Type} (f : α → Value) (z : Value) (zs : List α) (k : Nat) (hk : k < zs.length) : (half f z zs k).set k (f zs[k]) = half f z zs (k + 1) := by
  unfold half
  have e : zs.length - k = (zs.length - (k + 1)) + 1 := by omega
  rw [e, List.replicate_succ, List.set_append_right _ _ (by simp; omega)]
  have e2 : k - (List.map f (zs.take k)).length = 0 := by simp; omega
  rw [e2, List.set_cons_zero, List.take_succ_eq_append_getElem hk]
  simp only [List.map_append, List.map_cons, List.map_nil, List.append_assoc, List.cons_append, List.nil_append]

theorem half_zero {α : Type} (f : α → Value) (z : Value) (zs : List α) : half f z zs 0 = List.replicate zs.length z := by simp [half]
theorem half_all {α : Type} (f : α → Value) (z : Value) (zs : List α) : half f z zs zs.length = zs.map f := by simp [half]

theorem clone_nil (w : World) : Calls Trym.prog 10 #[.slice none 0 0] w fun e w' => e = .returned (.slice none 0 0) ∧ w' = w := by
  have q22 : ∀ (w : World) (a : Option Addr) (n c n' c' : Nat), (binOp .eql 22 (.slice a n c) (.slice none n' c')).run Trym.prog w = .ok (.bool a.isNone) w := fun w a n c n' c' => Lib.run_eql_slice_nil w 22 5 a n c n' c' Trym.underlying22
  go_enter Trym.func10, Trym.ntmps10
  go_wp2
  go_ret
  exact ⟨rfl, rfl⟩

set_option maxHeartbeats 400000 in
theorem clone_some (b off cap : Nat) (zs : List Int) (w : World) (hb : b < w.heap.size) (hn : zs.length ≤ 1048576)
    (hc : ∀ i, i < zs.length → w.cell? ⟨b, off + i, none⟩ = some (.int .u8 (zs.getD i 0))) :
    Calls Trym.prog 10 #[.slice (some ⟨b, off, none⟩) zs.length cap] w fun e w' => e = .returned (.slice (some ⟨w.heap.size, 0, none⟩) zs.length zs.length) ∧
      w'.ownsRow w.heap.size 5 1 (.slice (some ⟨w.heap.size, 0, none⟩) zs.length zs.length) zs.length (zs.map (Value.int .u8)) ∧ Below w.heap.size w w' := by
  have q22 : ∀ (w : World) (a : Option Addr) (n c n' c' : Nat), (binOp .eql 22 (.slice a n c) (.slice none n' c')).run Trym.prog w = .ok (.bool a.isNone) w := fun w a n c n' c' => Lib.run_eql_slice_nil w 22 5 a n c n' c' Trym.underlying22
  obtain ⟨i0, hi, hz0, hz1, hz2⟩ := info_parts Trym.info5
  go_enter Trym.func10, Trym.ntmps10
  go_wp2_with (at_make; refine wpList_make_full _ rfl _ _ 22 rfl w.heap.size 5 i0 (.int .u8 0) 1 Trym.underlying22 hi hz0 hz1 _ _ _ _ zs.length rfl rfl rfl rfl (by rw [hz2]; omega) (by unfold maxLen; omega) (Nat.le_refl _) ?_)
  intro w1 hown hgrow
  have hbel : Below w.heap.size w w1 := (Below.refl _ _).grown hgrow (Nat.le_refl _) (by intro k h; cases h)
  rw [toList_madeCells_one, ← half_zero (Value.int .u8)] at hown
  clear hgrow hi hz0 hz1 hz2
  go_wp2
  go_loopw [4] (fun i wr => ∃ k : Nat, k ≤ zs.length ∧ i = .int .i64 k ∧ wr.ownsRow w.heap.size 5 1 (.slice (some ⟨w.heap.size, 0, none⟩) zs.length zs.length) zs.length (half (Value.int .u8) (.int .u8 0) zs k) ∧ Below w.heap.size w wr)
    (fun i _ => zs.length - (intOf i).toNat)
  case atStart => exact ⟨0, Nat.zero_le _, rfl, hown, hbel⟩
  case round =>
    obtain ⟨k, hk, rfl, hown', hbel'⟩ := hrel
    clear hown hbel
    by_cases hlt : k < zs.length
    · have hcx : wr.cell? ⟨b, off + k, none⟩ = some (.int .u8 zs[k]) := by
        rw [hbel'.cell (by exact hb), hc k hlt]; simp [List.getD, hlt]
      have hfz := hown'.frozenAt k
      have hce : ∃ v, wr.cell? ⟨w.heap.size, k, none⟩ = some v := by
        rw [hown'.cellAt k (by omega)]
        have hl : k < (half (Value.int .u8) (.int .u8 0) zs k).length := by simp [half]; omega
        exact ⟨_, List.getElem?_eq_getElem hl⟩
      obtain ⟨v0, hce⟩ := hce
      have hst := hown'.stored k (.int .u8 zs[k])
      rw [half_set (Value.int .u8) (.int .u8 0) zs k hlt] at hst
      have R : Hid (_ ∧ _) := hst
      have Rb := Below.setCell hbel' (p := ⟨w.heap.size, k, none⟩) (Nat.le_refl _) (.int .u8 zs[k])
      clear hst
      go_wp2
      go_roundw
      case rel => exact ⟨k + 1, by omega, by go_num, R.out.1, Rb⟩
      case measure => simp [intOf]; omega
    · go_wp2
      go_ret
      obtain rfl : k = zs.length := by omega
      rw [half_all] at hown'
      exact ⟨rfl, hown', hbel'⟩
