import Derived.Test.Qxb6600870aModsBuild
import Derived.OwnWalk
import Derived.OneCell
namespace Go.Proofs.Qxb6600870aMods
open Go.RowKit

theorem own_cells {w : World} {base g n cap : Nat} {e : TypeId} {size : Nat} {xs : List Value} (h : w.ownsRow base e size (.slice (some ⟨g, 0, none⟩) n cap) n xs) :
    ∃ cur, w.heap[g]? = some (.cells cur e (0, 0)) ∧ cur.size = cap * size ∧ base ≤ g := by
  rcases h.2 with ⟨h', _⟩ | ⟨g', cap', cur, h', hb, hg, _, _, hcs, _⟩
  · simp at h'
  · simp only [Value.slice.injEq, Option.some.injEq, Addr.mk.injEq, and_true, true_and] at h'
    obtain ⟨rfl, rfl⟩ := h'
    exact ⟨cur, hg, hcs, hb⟩


/-- What has been copied behind k rounds. -/
def half {α : Type} (f : α → Value) (z : Value) (zs : List α) (k : Nat) : List Value := (zs.take k).map f ++ List.replicate (zs.length - k) z

theorem half_set {α : Type} (f : α → Value) (z : Value) (zs : List α) (k : Nat) (hk : k < zs.length) : (half f z zs k).set k (f zs[k]) = half f z zs (k + 1) := by
  unfold half
  have e : zs.length - k = (zs.length - (k + 1)) + 1 := by omega
  rw [e, List.replicate_succ, List.set_append_right _ _ (by simp; omega)]
  have e2 : k - (List.map f (zs.take k)).length = 0 := by simp; omega
  rw [e2, List.set_cons_zero, List.take_succ_eq_append_getElem hk]
  simp only [List.map_append, List.map_cons, List.map_nil, List.append_assoc, List.cons_append, List.nil_append]

theorem half_zero {α : Type} (f : α → Value) (z : Value) (zs : List α) : half f z zs 0 = List.replicate zs.length z := by simp [half]
theorem half_all {α : Type} (f : α → Value) (z : Value) (zs : List α) : half f z zs zs.length = zs.map f := by simp [half]

/-- The slice that begins at 'a', wherever in its array, holds the list's elements. -/
def Src {α : Type} (w : World) (a : Option Addr) (xs : List α) (f : α → Value) : Prop :=
  0 < xs.length → ∃ b off, a = some ⟨b, off, none⟩ ∧ ∀ i (h : i < xs.length), w.cell? ⟨b, off + i, none⟩ = some (f xs[i])

theorem Src.below {α : Type} {w w' : World} {a : Option Addr} {xs : List α} {f : α → Value} (h : Src w a xs f) (hb : Below w.heap.size w w') : Src w' a xs f := fun hp => by
  obtain ⟨b, off, e, hc⟩ := h hp
  exact ⟨b, off, e, fun i hi => cell_later hb (hc i hi)⟩

theorem liesB_own {α : Type} {w : World} {base g n : Nat} {e : TypeId} {xs : List α} {f : α → Value} (hn : n = xs.length) (h : w.ownsRow base e 1 (.slice (some ⟨g, 0, none⟩) n n) n (xs.map f)) : LiesB w.heap.size w (some ⟨g, 0, none⟩) xs f := fun hp => by
  obtain ⟨cur, hg, _⟩ := own_cells h
  refine ⟨g, lt_of_block hg, rfl, fun i hi => ?_⟩
  rw [h.cellAt i (by omega)]
  simp [hi]

theorem Trym.info9 : (Trym.prog.info? 9).map (fun i => (i.zero, i.size, i.bytes)) = some (some (.string ⟨#[]⟩), 1, 16) := by kernel_rfl

theorem cloneS_nil (w : World) : Calls Trym.prog 10 #[.slice none 0 0] w fun e w' => e = .returned (.slice none 0 0) ∧ w' = w := by
  have qT : ∀ (w : World) (a : Option Addr) (n c n' c' : Nat), (binOp .eql 22 (.slice a n c) (.slice none n' c')).run Trym.prog w = .ok (.bool a.isNone) w := fun w a n c n' c' => Lib.run_eql_slice_nil w 22 9 a n c n' c' Trym.underlying22
  go_enter Trym.func10, Trym.ntmps10
  go_wp2
  go_ret
  exact ⟨rfl, rfl⟩

theorem cloneS_empty (x : Addr) (cap : Nat) (w : World) :
    Calls Trym.prog 10 #[.slice (some x) 0 cap] w fun e w' => e = .returned (.slice (some ⟨w.heap.size, 0, none⟩) 0 0) ∧ Below w.heap.size w w' := by
  have qT : ∀ (w : World) (a : Option Addr) (n c n' c' : Nat), (binOp .eql 22 (.slice a n c) (.slice none n' c')).run Trym.prog w = .ok (.bool a.isNone) w := fun w a n c n' c' => Lib.run_eql_slice_nil w 22 9 a n c n' c' Trym.underlying22
  obtain ⟨i0, hi, hz0, hz1, hz2⟩ := info_parts Trym.info9
  go_enter Trym.func10, Trym.ntmps10
  go_wp2_with (at_make; refine wpList_make_full _ rfl _ _ 22 rfl w.heap.size 9 i0 (.string ⟨#[]⟩) 1 Trym.underlying22 hi hz0 hz1 _ _ _ _ 0 rfl rfl rfl rfl (by omega) (by unfold maxLen; omega) (Nat.le_refl _) ?_)
  intro w1 hown hgrow
  have hbel : Below w.heap.size w w1 := (Below.refl _ _).grown hgrow (Nat.le_refl _) (by intro k h; cases h)
  clear hgrow hi hz0 hz1 hz2 hown
  go_wp2
  refine wp_loop_rounds 1 ?_
  rw [rounds_succ]
  go_wp2
  go_ret
  exact ⟨rfl, hbel⟩

set_option maxHeartbeats 400000 in
theorem cloneS_some (b off cap : Nat) (zs : List ByteArray) (w : World) (hb : b < w.heap.size) (hn : zs.length ≤ 1048576)
    (hc : ∀ i (h : i < zs.length), w.cell? ⟨b, off + i, none⟩ = some (Value.string zs[i])) :
    Calls Trym.prog 10 #[.slice (some ⟨b, off, none⟩) zs.length cap] w fun e w' => e = .returned (.slice (some ⟨w.heap.size, 0, none⟩) zs.length zs.length) ∧
      w'.ownsRow w.heap.size 9 1 (.slice (some ⟨w.heap.size, 0, none⟩) zs.length zs.length) zs.length (zs.map (Value.string)) ∧ Below w.heap.size w w' := by
  have qT : ∀ (w : World) (a : Option Addr) (n c n' c' : Nat), (binOp .eql 22 (.slice a n c) (.slice none n' c')).run Trym.prog w = .ok (.bool a.isNone) w := fun w a n c n' c' => Lib.run_eql_slice_nil w 22 9 a n c n' c' Trym.underlying22
  have HC : Hid (∀ i (h : i < zs.length), w.cell? ⟨b, off + i, none⟩ = some (Value.string zs[i])) := hc
  clear hc
  obtain ⟨i0, hi, hz0, hz1, hz2⟩ := info_parts Trym.info9
  go_enter Trym.func10, Trym.ntmps10
  go_wp2_with (at_make; refine wpList_make_full _ rfl _ _ 22 rfl w.heap.size 9 i0 (.string ⟨#[]⟩) 1 Trym.underlying22 hi hz0 hz1 _ _ _ _ zs.length rfl rfl rfl rfl (by rw [hz2]; omega) (by unfold maxLen; omega) (Nat.le_refl _) ?_)
  intro w1 hown hgrow
  have hbel : Below w.heap.size w w1 := (Below.refl _ _).grown hgrow (Nat.le_refl _) (by intro k h; cases h)
  rw [toList_madeCells_one, ← half_zero (Value.string)] at hown
  clear hgrow hi hz0 hz1 hz2
  go_wp2
  go_loopw [4] (fun i wr => ∃ k : Nat, k ≤ zs.length ∧ i = .int .i64 k ∧ wr.ownsRow w.heap.size 9 1 (.slice (some ⟨w.heap.size, 0, none⟩) zs.length zs.length) zs.length (half (Value.string) (.string ⟨#[]⟩) zs k) ∧ Below w.heap.size w wr)
    (fun i _ => zs.length - (intOf i).toNat)
  case atStart => exact ⟨0, Nat.zero_le _, rfl, hown, hbel⟩
  case round =>
    obtain ⟨k, hk, rfl, hown', hbel'⟩ := hrel
    clear hown hbel
    by_cases hlt : k < zs.length
    · have hcx : wr.cell? ⟨b, off + k, none⟩ = some (Value.string zs[k]) := by
        rw [hbel'.cell (by exact hb)]; exact HC.out k hlt
      have hfz := hown'.frozenAt k
      have hce : ∃ v, wr.cell? ⟨w.heap.size, k, none⟩ = some v := by
        rw [hown'.cellAt k (by omega)]
        have hl : k < (half (Value.string) (.string ⟨#[]⟩) zs k).length := by simp [half]; omega
        exact ⟨_, List.getElem?_eq_getElem hl⟩
      obtain ⟨v0, hce⟩ := hce
      have hst := hown'.stored k (Value.string zs[k])
      rw [half_set (Value.string) (.string ⟨#[]⟩) zs k hlt] at hst
      have R : Hid (_ ∧ _) := hst
      have Rb := Below.setCell hbel' (p := ⟨w.heap.size, k, none⟩) (Nat.le_refl _) (Value.string zs[k])
      clear hst
      go_wp2
      go_roundw
      case rel => exact ⟨k + 1, by omega, by go_num, R.out.1, Rb⟩
      case measure => simp [intOf]; omega
    · go_wp2
      go_ret
      obtain rfl : k = zs.length := by omega
      rw [half_all] at hown'
      exact ⟨rfl, hown', hbel'⟩

theorem cloneS (a : Option Addr) (zs : List ByteArray) (cap : Nat) (w : World) (h0 : a = none → zs.length = 0 ∧ cap = 0) (hs : Src w a zs (Value.string)) (hn : zs.length ≤ 1048576) :
    Calls Trym.prog 10 #[.slice a zs.length cap] w fun e w' => ∃ a', e = .returned (.slice a' zs.length zs.length) ∧ LiesB w'.heap.size w' a' zs (Value.string) ∧ Below w.heap.size w w' := by
  cases a with
  | none =>
    obtain ⟨h1, rfl⟩ := h0 rfl
    rw [h1]
    refine (cloneS_nil w).mono ?_
    rintro e w' ⟨rfl, rfl⟩
    exact ⟨none, rfl, fun hp => by omega, Below.refl _ _⟩
  | some x =>
    by_cases h1 : zs.length = 0
    · rw [h1]
      refine (cloneS_empty x cap w).mono ?_
      rintro e w' ⟨rfl, hb⟩
      exact ⟨_, rfl, fun hp => by omega, hb⟩
    · obtain ⟨b, off, e, hc⟩ := hs (by omega)
      rw [e]
      refine (cloneS_some b off cap zs w (World.block_lt_of_cell? _ _ (hc 0 (by omega))) hn hc).mono ?_
      rintro e w' ⟨rfl, hown, hb⟩
      exact ⟨_, rfl, liesB_own rfl hown, hb⟩

theorem Trym.info3 : (Trym.prog.info? 3).map (fun i => (i.zero, i.size, i.bytes)) = some (some (.int .i64 0), 1, 8) := by kernel_rfl

theorem cloneI_nil (w : World) : Calls Trym.prog 11 #[.slice none 0 0] w fun e w' => e = .returned (.slice none 0 0) ∧ w' = w := by
  have qT : ∀ (w : World) (a : Option Addr) (n c n' c' : Nat), (binOp .eql 23 (.slice a n c) (.slice none n' c')).run Trym.prog w = .ok (.bool a.isNone) w := fun w a n c n' c' => Lib.run_eql_slice_nil w 23 3 a n c n' c' Trym.underlying23
  go_enter Trym.func11, Trym.ntmps11
  go_wp2
  go_ret
  exact ⟨rfl, rfl⟩

theorem cloneI_empty (x : Addr) (cap : Nat) (w : World) :
    Calls Trym.prog 11 #[.slice (some x) 0 cap] w fun e w' => e = .returned (.slice (some ⟨w.heap.size, 0, none⟩) 0 0) ∧ Below w.heap.size w w' := by
  have qT : ∀ (w : World) (a : Option Addr) (n c n' c' : Nat), (binOp .eql 23 (.slice a n c) (.slice none n' c')).run Trym.prog w = .ok (.bool a.isNone) w := fun w a n c n' c' => Lib.run_eql_slice_nil w 23 3 a n c n' c' Trym.underlying23
  obtain ⟨i0, hi, hz0, hz1, hz2⟩ := info_parts Trym.info3
  go_enter Trym.func11, Trym.ntmps11
  go_wp2_with (at_make; refine wpList_make_full _ rfl _ _ 23 rfl w.heap.size 3 i0 (.int .i64 0) 1 Trym.underlying23 hi hz0 hz1 _ _ _ _ 0 rfl rfl rfl rfl (by omega) (by unfold maxLen; omega) (Nat.le_refl _) ?_)
  intro w1 hown hgrow
  have hbel : Below w.heap.size w w1 := (Below.refl _ _).grown hgrow (Nat.le_refl _) (by intro k h; cases h)
  clear hgrow hi hz0 hz1 hz2 hown
  go_wp2
  refine wp_loop_rounds 1 ?_
  rw [rounds_succ]
  go_wp2
  go_ret
  exact ⟨rfl, hbel⟩

set_option maxHeartbeats 400000 in
theorem cloneI_some (b off cap : Nat) (zs : List Int) (w : World) (hb : b < w.heap.size) (hn : zs.length ≤ 1048576)
    (hc : ∀ i (h : i < zs.length), w.cell? ⟨b, off + i, none⟩ = some (Value.int .i64 zs[i])) :
    Calls Trym.prog 11 #[.slice (some ⟨b, off, none⟩) zs.length cap] w fun e w' => e = .returned (.slice (some ⟨w.heap.size, 0, none⟩) zs.length zs.length) ∧
      w'.ownsRow w.heap.size 3 1 (.slice (some ⟨w.heap.size, 0, none⟩) zs.length zs.length) zs.length (zs.map (Value.int .i64)) ∧ Below w.heap.size w w' := by
  have qT : ∀ (w : World) (a : Option Addr) (n c n' c' : Nat), (binOp .eql 23 (.slice a n c) (.slice none n' c')).run Trym.prog w = .ok (.bool a.isNone) w := fun w a n c n' c' => Lib.run_eql_slice_nil w 23 3 a n c n' c' Trym.underlying23
  have HC : Hid (∀ i (h : i < zs.length), w.cell? ⟨b, off + i, none⟩ = some (Value.int .i64 zs[i])) := hc
  clear hc
  obtain ⟨i0, hi, hz0, hz1, hz2⟩ := info_parts Trym.info3
  go_enter Trym.func11, Trym.ntmps11
  go_wp2_with (at_make; refine wpList_make_full _ rfl _ _ 23 rfl w.heap.size 3 i0 (.int .i64 0) 1 Trym.underlying23 hi hz0 hz1 _ _ _ _ zs.length rfl rfl rfl rfl (by rw [hz2]; omega) (by unfold maxLen; omega) (Nat.le_refl _) ?_)
  intro w1 hown hgrow
  have hbel : Below w.heap.size w w1 := (Below.refl _ _).grown hgrow (Nat.le_refl _) (by intro k h; cases h)
  rw [toList_madeCells_one, ← half_zero (Value.int .i64)] at hown
  clear hgrow hi hz0 hz1 hz2
  go_wp2
  go_loopw [4] (fun i wr => ∃ k : Nat, k ≤ zs.length ∧ i = .int .i64 k ∧ wr.ownsRow w.heap.size 3 1 (.slice (some ⟨w.heap.size, 0, none⟩) zs.length zs.length) zs.length (half (Value.int .i64) (.int .i64 0) zs k) ∧ Below w.heap.size w wr)
    (fun i _ => zs.length - (intOf i).toNat)
  case atStart => exact ⟨0, Nat.zero_le _, rfl, hown, hbel⟩
  case round =>
    obtain ⟨k, hk, rfl, hown', hbel'⟩ := hrel
    clear hown hbel
    by_cases hlt : k < zs.length
    · have hcx : wr.cell? ⟨b, off + k, none⟩ = some (Value.int .i64 zs[k]) := by
        rw [hbel'.cell (by exact hb)]; exact HC.out k hlt
      have hfz := hown'.frozenAt k
      have hce : ∃ v, wr.cell? ⟨w.heap.size, k, none⟩ = some v := by
        rw [hown'.cellAt k (by omega)]
        have hl : k < (half (Value.int .i64) (.int .i64 0) zs k).length := by simp [half]; omega
        exact ⟨_, List.getElem?_eq_getElem hl⟩
      obtain ⟨v0, hce⟩ := hce
      have hst := hown'.stored k (Value.int .i64 zs[k])
      rw [half_set (Value.int .i64) (.int .i64 0) zs k hlt] at hst
      have R : Hid (_ ∧ _) := hst
      have Rb := Below.setCell hbel' (p := ⟨w.heap.size, k, none⟩) (Nat.le_refl _) (Value.int .i64 zs[k])
      clear hst
      go_wp2
      go_roundw
      case rel => exact ⟨k + 1, by omega, by go_num, R.out.1, Rb⟩
      case measure => simp [intOf]; omega
    · go_wp2
      go_ret
      obtain rfl : k = zs.length := by omega
      rw [half_all] at hown'
      exact ⟨rfl, hown', hbel'⟩

theorem cloneI (a : Option Addr) (zs : List Int) (cap : Nat) (w : World) (h0 : a = none → zs.length = 0 ∧ cap = 0) (hs : Src w a zs (Value.int .i64)) (hn : zs.length ≤ 1048576) :
    Calls Trym.prog 11 #[.slice a zs.length cap] w fun e w' => ∃ a', e = .returned (.slice a' zs.length zs.length) ∧ LiesB w'.heap.size w' a' zs (Value.int .i64) ∧ Below w.heap.size w w' := by
  cases a with
  | none =>
    obtain ⟨h1, rfl⟩ := h0 rfl
    rw [h1]
    refine (cloneI_nil w).mono ?_
    rintro e w' ⟨rfl, rfl⟩
    exact ⟨none, rfl, fun hp => by omega, Below.refl _ _⟩
  | some x =>
    by_cases h1 : zs.length = 0
    · rw [h1]
      refine (cloneI_empty x cap w).mono ?_
      rintro e w' ⟨rfl, hb⟩
      exact ⟨_, rfl, fun hp => by omega, hb⟩
    · obtain ⟨b, off, e, hc⟩ := hs (by omega)
      rw [e]
      refine (cloneI_some b off cap zs w (World.block_lt_of_cell? _ _ (hc 0 (by omega))) hn hc).mono ?_
      rintro e w' ⟨rfl, hown, hb⟩
      exact ⟨_, rfl, liesB_own rfl hown, hb⟩

end Go.Proofs.Qxb6600870aMods
