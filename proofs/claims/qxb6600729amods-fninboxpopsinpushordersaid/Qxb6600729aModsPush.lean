import Derived.Test.Qxb6600729aModsDoors
import Derived.Deep.RegionLaw
import Derived.Deep.DrawnRows
namespace Go.Proofs.Qxb6600729aMods
open Go.RowKit

theorem own_ne {w : World} {base : Nat} {e : TypeId} {size : Nat} {v : Value} {n : Nat} {xs : List Value} (h : w.ownsRow base e size v n xs) (k : Nat) (hk : k < base ∨ w.heap.size ≤ k) : v.ownBlock ≠ some k := by
  rcases h.2 with ⟨rfl, _⟩ | ⟨g, cap, cur, rfl, hb, hg, _⟩
  · intro e; cases e
  · have := lt_of_block hg
    intro e
    simp [Value.ownBlock] at e
    omega

theorem grown_block {W w1 : World} {o : Obj} {row : Option Nat} (hg : ((W.alloc o).drew).grownBy w1 row) {k : Nat} (hk : k < W.heap.size) (hne : row ≠ some k) : w1.heap[k]? = W.heap[k]? :=
  (hg.block k (by simp; omega) (Ne.symm hne)).trans (Below.heap_alloc _ _ _ hk)
theorem grown_keep {W w1 : World} {o : Obj} {row : Option Nat} (hg : ((W.alloc o).drew).grownBy w1 row) {k j : Nat} {v : Value} (hk : k < W.heap.size) (hne : row ≠ some k) (hc : W.cell? ⟨k, j, none⟩ = some v) : w1.cell? ⟨k, j, none⟩ = some v :=
  far_keep (grown_block hg hk hne) hc
theorem grown_frozen {W w1 : World} {o : Obj} {row : Option Nat} (hg : ((W.alloc o).drew).grownBy w1 row) {k j : Nat} (hk : k < W.heap.size) (hne : row ≠ some k) (hc : W.frozen? ⟨k, j, none⟩ = false) : w1.frozen? ⟨k, j, none⟩ = false :=
  (World.frozen?_of_block (w := W) (a := ⟨k, j, none⟩) (grown_block hg hk hne)).trans hc

theorem push_end {w W w1 : World} {o : Obj} {B n' h : Nat} {V V' : Value} {ys : List Value} (lBW : B < W.heap.size) (GO : ∃ m xs, W.ownsRow (B + 1) 56 5 V m xs) (GB : Below B w W) (GH : W.heap[B]? = some (.cells #[V, .int .i64 h] 47 (0, 0)))
    (hgrow : ((W.alloc o).drew).grownBy w1 V.ownBlock) (hown1 : w1.ownsRow (B + 1) 56 5 V' n' ys) :
    (w1.setCell ⟨B, 0, none⟩ V').heap[B]? = some (.cells #[V', .int .i64 h] 47 (0, 0)) ∧ (w1.setCell ⟨B, 0, none⟩ V').ownsRow (B + 1) 56 5 V' n' ys ∧ Below B w (w1.setCell ⟨B, 0, none⟩ V') := by
  obtain ⟨m, xs, hO⟩ := GO
  have hne := own_ne hO B (.inl (by omega))
  refine ⟨heap_setCell_same w1 B 0 #[V, .int .i64 h] 47 V' ((grown_block hgrow lBW hne).trans GH), ownsRow_setCell_below hown1 (by show B < B + 1; omega) _, ?_⟩
  have h1 : Below B w (W.alloc o).drew := (GB.alloc (by omega) _).drew
  refine (h1.grown hgrow (by simp; omega) ?_).setCell (Nat.le_refl _) _
  intro k hk
  rcases hO.2 with ⟨rfl, _⟩ | ⟨g, cap, cur, rfl, hb, _⟩
  · cases hk
  · simp [Value.ownBlock] at hk; omega

set_option maxHeartbeats 4000000 in
set_option maxRecDepth 100000 in
theorem push_plain1 (B : Nat) (ao : Option Addr) (n cap h : Nat) (xs : List Value) (s : ByteArray) (pa : Option Addr) (pn pc : Nat) (r q t : Int) (w : World)
    (hbB : w.heap[B]? = some (.cells #[.slice ao n cap, .int .i64 h] 47 (0, 0))) (hown : w.ownsRow (B + 1) 56 5 (.slice ao n cap) n xs) (hn : n ≤ 1048576) (e1 : ¬ n = cap) :
    Calls Trym.prog 29 #[.pointer (some ⟨B, 0, none⟩), .agg #[.string s, .slice pa pn pc, .int .i64 r, .int .u64 q, .int .i64 t]] w fun e w' => e = .returned (.tuple #[]) ∧
      ∃ g' cap', w'.heap[B]? = some (.cells #[.slice (some ⟨g', 0, none⟩) (n + 1) cap', .int .i64 h] 47 (0, 0)) ∧ w'.ownsRow (B + 1) 56 5 (.slice (some ⟨g', 0, none⟩) (n + 1) cap') (n + 1) (xs ++ [.string s, .slice pa pn pc, .int .i64 r, .int .u64 q, .int .i64 t]) ∧ Below B w w' := by
  have hI : w.cell? ⟨B, 0, none⟩ = some (.slice ao n cap) := cell_of_row w B 0 _ _ _ hbB
  have hH : w.cell? ⟨B, 1, none⟩ = some (.int .i64 h) := cell_of_row w B 1 _ _ _ hbB
  have f0 := frozen_of_row w B 0 _ _ hbB
  have f1 := frozen_of_row w B 1 _ _ hbB
  have lB : B < w.heap.size := lt_of_block hbB
  have HB : Hid (_ = _) := hbB
  have HO : Hid (w.ownsRow (B + 1) 56 5 (.slice ao n cap) n xs) := hown
  clear hbB hown
  obtain ⟨i0, hi0, hz0, hz1, hz2⟩ := info_parts Trym.info56
  have HI : Hid (_ ∧ _ ∧ _ ∧ _) := ⟨hi0, hz0, hz1, hz2⟩
  clear hi0 hz0 hz1 hz2
  have b1 : ((n : Int) == (cap : Int)) = false := beq_eq_false_iff_ne.2 (by omega)
  clear e1
  all_goals
    go_enter Trym.func29, Trym.ntmps29
    go_wp2
    go_quiet (fail)
    go_wp2
    obtain ⟨W, hW⟩ : ∃ W, W = (w.alloc (.cells #[.string s, .slice pa pn pc, .int .i64 r, .int .u64 q, .int .i64 t] 56)).drewN nq := ⟨_, rfl⟩
    have gI : W.cell? ⟨B, 0, none⟩ = some (.slice ao n cap) := by rw [hW]; simp [World.cell?_alloc_lt, lB, hI]
    have gF : W.frozen? ⟨B, 0, none⟩ = false := by rw [hW]; simp [World.frozen?_alloc_past, lB, f0]
    have HS : Hid (W.heap.size = w.heap.size + 1) := by rw [hW]; simp [Hid]
    have lX : w.heap.size < W.heap.size := by rw [HS.out]; omega
    have lBW : B < W.heap.size := by omega
    have gX : W.heap[w.heap.size]? = some (.cells #[.string s, .slice pa pn pc, .int .i64 r, .int .u64 q, .int .i64 t] 56) := by rw [hW]; exact heap_alloc_new w _
    have x0 : W.cell? ⟨w.heap.size, 0, none⟩ = some (.string s) := cell_of_row W w.heap.size 0 _ _ _ gX
    have x1 : W.cell? ⟨w.heap.size, 1, none⟩ = some (.slice pa pn pc) := cell_of_row W w.heap.size 1 _ _ _ gX
    have x2 : W.cell? ⟨w.heap.size, 2, none⟩ = some (.int .i64 r) := cell_of_row W w.heap.size 2 _ _ _ gX
    have x3 : W.cell? ⟨w.heap.size, 3, none⟩ = some (.int .u64 q) := cell_of_row W w.heap.size 3 _ _ _ gX
    have x4 : W.cell? ⟨w.heap.size, 4, none⟩ = some (.int .i64 t) := cell_of_row W w.heap.size 4 _ _ _ gX
    have GO : Hid (W.ownsRow (B + 1) 56 5 (.slice ao n cap) n xs) := by rw [hW]; exact HO.out.alloc _
    have GB : Hid (Below B w W) := by rw [hW]; exact below_drewN ((Below.refl B w).alloc (by omega) _) _
    have GH : Hid (W.heap[B]? = some (.cells #[.slice ao n cap, .int .i64 h] 47 (0, 0))) := by rw [hW]; exact (Below.heap_alloc _ _ _ lB).trans HB.out
    have GN : Hid ((Value.slice ao n cap).ownBlock ≠ some B ∧ (Value.slice ao n cap).ownBlock ≠ some w.heap.size) := ⟨own_ne HO.out B (.inl (by omega)), own_ne HO.out _ (.inr (Nat.le_refl _))⟩
    rw [← hW]
    clear hW hI hH f0 f1 HB HO gX
    generalize w.heap.size = X at *
    go_region_law ((refine step_append_lies _ (by rfl) _ _ _ (by rfl) (B + 1) 56 i0 _ 5 64 Trym.underlying45 HI.out.1 HI.out.2.1 HI.out.2.2.1 HI.out.2.2.2 rfl (by omega) _ n xs (by rfl) (by exact GO.out.alloc _) ⟨W.heap.size, 0, none⟩ 1 1 [.string s, .slice pa pn pc, .int .i64 r, .int .u64 q, .int .i64 t] (by rfl) (by rfl) (World.news_of_block (cs := #[.string s, .slice pa pn pc, .int .i64 r, .int .u64 q, .int .i64 t]) (t := 56) (fr := (0, 0)) (heap_alloc_new W _)) (by simp [Value.oneCell']) (by omega) (by unfold maxLen; omega) (by omega) (by simp; omega) (W.heap.size + 1) (by simp) ?_; intro gg cap1 w1 hown1 hgrow hat hlt; have hc1 := grown_keep hgrow lBW GN.out.1 gI; have hf1 := grown_frozen hgrow lBW GN.out.1 gF))
    all_goals go_wp2
    all_goals
      go_end0
      obtain ⟨r1, r2, r3⟩ := push_end lBW ⟨n, xs, GO.out⟩ GB.out GH.out hgrow hown1
      exact ⟨rfl, gg, cap1, r1, r2, r3⟩

set_option maxHeartbeats 4000000 in
set_option maxRecDepth 100000 in
theorem push_plain2 (B : Nat) (ao : Option Addr) (n h : Nat) (xs : List Value) (s : ByteArray) (pa : Option Addr) (pn pc : Nat) (r q t : Int) (w : World)
    (hbB : w.heap[B]? = some (.cells #[.slice ao n n, .int .i64 h] 47 (0, 0))) (hown : w.ownsRow (B + 1) 56 5 (.slice ao n n) n xs) (hn : n ≤ 1048576) (hno : h = 0 ∨ h < n / 2) :
    Calls Trym.prog 29 #[.pointer (some ⟨B, 0, none⟩), .agg #[.string s, .slice pa pn pc, .int .i64 r, .int .u64 q, .int .i64 t]] w fun e w' => e = .returned (.tuple #[]) ∧
      ∃ g' cap', w'.heap[B]? = some (.cells #[.slice (some ⟨g', 0, none⟩) (n + 1) cap', .int .i64 h] 47 (0, 0)) ∧ w'.ownsRow (B + 1) 56 5 (.slice (some ⟨g', 0, none⟩) (n + 1) cap') (n + 1) (xs ++ [.string s, .slice pa pn pc, .int .i64 r, .int .u64 q, .int .i64 t]) ∧ Below B w w' := by
  have hI : w.cell? ⟨B, 0, none⟩ = some (.slice ao n n) := cell_of_row w B 0 _ _ _ hbB
  have hH : w.cell? ⟨B, 1, none⟩ = some (.int .i64 h) := cell_of_row w B 1 _ _ _ hbB
  have f0 := frozen_of_row w B 0 _ _ hbB
  have f1 := frozen_of_row w B 1 _ _ hbB
  have lB : B < w.heap.size := lt_of_block hbB
  have HB : Hid (_ = _) := hbB
  have HO : Hid (w.ownsRow (B + 1) 56 5 (.slice ao n n) n xs) := hown
  clear hbB hown
  obtain ⟨i0, hi0, hz0, hz1, hz2⟩ := info_parts Trym.info56
  have HI : Hid (_ ∧ _ ∧ _ ∧ _) := ⟨hi0, hz0, hz1, hz2⟩
  clear hi0 hz0 hz1 hz2
  have key : decide (0 < h) = false ∨ (decide (0 < h) = true ∧ decide ((n : Int) / 2 ≤ (h : Int)) = false) := by
    by_cases e2 : 0 < h
    · exact .inr ⟨decide_eq_true e2, decide_eq_false (by omega)⟩
    · exact .inl (decide_eq_false e2)
  clear hno
  rcases key with b2 | ⟨b2, b3⟩
  all_goals
    go_enter Trym.func29, Trym.ntmps29
    go_wp2
    go_quiet (fail)
    go_wp2
    obtain ⟨W, hW⟩ : ∃ W, W = (w.alloc (.cells #[.string s, .slice pa pn pc, .int .i64 r, .int .u64 q, .int .i64 t] 56)).drewN nq := ⟨_, rfl⟩
    have gI : W.cell? ⟨B, 0, none⟩ = some (.slice ao n n) := by rw [hW]; simp [World.cell?_alloc_lt, lB, hI]
    have gF : W.frozen? ⟨B, 0, none⟩ = false := by rw [hW]; simp [World.frozen?_alloc_past, lB, f0]
    have HS : Hid (W.heap.size = w.heap.size + 1) := by rw [hW]; simp [Hid]
    have lX : w.heap.size < W.heap.size := by rw [HS.out]; omega
    have lBW : B < W.heap.size := by omega
    have gX : W.heap[w.heap.size]? = some (.cells #[.string s, .slice pa pn pc, .int .i64 r, .int .u64 q, .int .i64 t] 56) := by rw [hW]; exact heap_alloc_new w _
    have x0 : W.cell? ⟨w.heap.size, 0, none⟩ = some (.string s) := cell_of_row W w.heap.size 0 _ _ _ gX
    have x1 : W.cell? ⟨w.heap.size, 1, none⟩ = some (.slice pa pn pc) := cell_of_row W w.heap.size 1 _ _ _ gX
    have x2 : W.cell? ⟨w.heap.size, 2, none⟩ = some (.int .i64 r) := cell_of_row W w.heap.size 2 _ _ _ gX
    have x3 : W.cell? ⟨w.heap.size, 3, none⟩ = some (.int .u64 q) := cell_of_row W w.heap.size 3 _ _ _ gX
    have x4 : W.cell? ⟨w.heap.size, 4, none⟩ = some (.int .i64 t) := cell_of_row W w.heap.size 4 _ _ _ gX
    have GO : Hid (W.ownsRow (B + 1) 56 5 (.slice ao n n) n xs) := by rw [hW]; exact HO.out.alloc _
    have GB : Hid (Below B w W) := by rw [hW]; exact below_drewN ((Below.refl B w).alloc (by omega) _) _
    have GH : Hid (W.heap[B]? = some (.cells #[.slice ao n n, .int .i64 h] 47 (0, 0))) := by rw [hW]; exact (Below.heap_alloc _ _ _ lB).trans HB.out
    have GN : Hid ((Value.slice ao n n).ownBlock ≠ some B ∧ (Value.slice ao n n).ownBlock ≠ some w.heap.size) := ⟨own_ne HO.out B (.inl (by omega)), own_ne HO.out _ (.inr (Nat.le_refl _))⟩
    rw [← hW]
    clear hW hI hH f0 f1 HB HO gX
    generalize w.heap.size = X at *
    go_region_law ((refine step_append_lies _ (by rfl) _ _ _ (by rfl) (B + 1) 56 i0 _ 5 64 Trym.underlying45 HI.out.1 HI.out.2.1 HI.out.2.2.1 HI.out.2.2.2 rfl (by omega) _ n xs (by rfl) (by exact GO.out.alloc _) ⟨W.heap.size, 0, none⟩ 1 1 [.string s, .slice pa pn pc, .int .i64 r, .int .u64 q, .int .i64 t] (by rfl) (by rfl) (World.news_of_block (cs := #[.string s, .slice pa pn pc, .int .i64 r, .int .u64 q, .int .i64 t]) (t := 56) (fr := (0, 0)) (heap_alloc_new W _)) (by simp [Value.oneCell']) (by omega) (by unfold maxLen; omega) (by omega) (by simp; omega) (W.heap.size + 1) (by simp) ?_; intro gg cap1 w1 hown1 hgrow hat hlt; have hc1 := grown_keep hgrow lBW GN.out.1 gI; have hf1 := grown_frozen hgrow lBW GN.out.1 gF))
    all_goals go_wp2
    all_goals
      go_end0
      obtain ⟨r1, r2, r3⟩ := push_end lBW ⟨n, xs, GO.out⟩ GB.out GH.out hgrow hown1
      exact ⟨rfl, gg, cap1, r1, r2, r3⟩
