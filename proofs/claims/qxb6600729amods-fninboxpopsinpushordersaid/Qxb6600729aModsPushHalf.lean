import Derived.Test.Qxb6600729aModsPushSame
namespace Go.Proofs.Qxb6600729aMods
open Go.RowKit

theorem fit_half {cur cur0 : Array Value} {n h M : Nat} (hc : cur.size = n * 5) (h0 : cur0.size = M * 5) (hm : n - h ≤ M) : 0 + (cur.toList.drop (h * 5)).length ≤ cur0.size := by
  rw [len_drop hc, h0]; omega

/-- The new row behind the copy. -/
def row2 (cur cur0 : Array Value) (h : Nat) : Array Value := (splice cur0.toList 0 (cur.toList.drop (h * 5))).toArray
theorem size_row2 {cur cur0 : Array Value} {n h M : Nat} (hc : cur.size = n * 5) (h0 : cur0.size = M * 5) (hm : n - h ≤ M) : (row2 cur cur0 h).size = M * 5 := by
  have := length_splice cur0.toList 0 (cur.toList.drop (h * 5)) (by rw [Array.length_toList]; exact fit_half hc h0 hm)
  simp only [row2, List.size_toArray]
  rw [this, Array.length_toList, h0]

theorem fit_clear2 {cur cur0 : Array Value} {n h M : Nat} (hc : cur.size = n * 5) (h0 : cur0.size = M * 5) (hm : n - h ≤ M) :
    (n - h) * 5 + (Builtin.zeroCells (Value.agg #[.string ⟨#[]⟩, .slice none 0 0, .int .i64 0, .int .u64 0, .int .i64 0]).cells (M - (n - h))).toList.length ≤ (row2 cur cur0 h).size := by
  rw [zero_len, size_row2 hc h0 hm]; omega

/-- The new row behind the clear. -/
def row3 (cur cur0 : Array Value) (n h M : Nat) : Array Value := (splice (row2 cur cur0 h).toList ((n - h) * 5) (Builtin.zeroCells (Value.agg #[.string ⟨#[]⟩, .slice none 0 0, .int .i64 0, .int .u64 0, .int .i64 0]).cells (M - (n - h))).toList).toArray

theorem own_row3 {w3 : World} {B S n h M : Nat} {cur cur0 : Array Value} (hc : cur.size = n * 5) (h0 : cur0.size = M * 5) (hm : n - h ≤ M) (hn : M ≤ maxLen) (hBS : B + 1 ≤ S) (hg : w3.heap[S]? = some (.cells (row3 cur cur0 n h M) 56 (0, 0))) :
    w3.ownsRow (B + 1) 56 5 (.slice (some ⟨S, 0, none⟩) (n - h) M) (n - h) (cur.toList.drop (h * 5)) := by
  have s2 := size_row2 (h := h) hc h0 hm
  have e1 : (row3 cur cur0 n h M).size = M * 5 := by
    have := length_splice (row2 cur cur0 h).toList ((n - h) * 5) (Builtin.zeroCells (Value.agg #[.string ⟨#[]⟩, .slice none 0 0, .int .i64 0, .int .u64 0, .int .i64 0]).cells (M - (n - h))).toList (by rw [Array.length_toList]; exact fit_clear2 hc h0 hm)
    simp only [row3, List.size_toArray]
    rw [this, Array.length_toList, s2]
  refine ⟨len_drop hc, .inr ⟨S, M, row3 cur cur0 n h M, rfl, hBS, hg, hm, hn, e1, ?_⟩⟩
  unfold row3
  rw [List.toList_toArray, take_splice _ _ _ (by rw [Array.length_toList, s2]; omega)]
  unfold row2
  rw [List.toList_toArray]
  have := take_splice0 cur0.toList (cur.toList.drop (h * 5))
  rw [len_drop hc] at this
  exact this

theorem own_cells {w : World} {base g n cap : Nat} {e : TypeId} {size : Nat} {xs : List Value} (h : w.ownsRow base e size (.slice (some ⟨g, 0, none⟩) n cap) n xs) :
    ∃ cur, w.heap[g]? = some (.cells cur e (0, 0)) ∧ cur.size = cap * size ∧ base ≤ g := by
  rcases h.2 with ⟨h', _⟩ | ⟨g', cap', cur, h', hb, hg, _, _, hcs, _⟩
  · simp at h'
  · simp only [Value.slice.injEq, Option.some.injEq, Addr.mk.injEq, and_true, true_and] at h'
    obtain ⟨rfl, rfl⟩ := h'
    exact ⟨cur, hg, hcs, hb⟩

set_option maxHeartbeats 4000000 in
set_option maxRecDepth 100000 in
theorem push_half (B g n h : Nat) (cur : Array Value) (s : ByteArray) (pa : Option Addr) (pn pc : Nat) (r q t : Int) (w : World)
    (hbB : w.heap[B]? = some (.cells #[.slice (some ⟨g, 0, none⟩) n n, .int .i64 h] 47 (0, 0))) (hbg : w.heap[g]? = some (.cells cur 56 (0, 0))) (hcs : cur.size = n * 5) (h1c : ∀ v ∈ cur.toList, v.oneCell' = true)
    (hBg : B + 1 ≤ g) (hn : n ≤ 1048576) (h0 : 0 < h) (h2 : n / 2 ≤ h) (hhn : h < n) (h4 : n - h ≤ n / 4) :
    Calls Trym.prog 29 #[.pointer (some ⟨B, 0, none⟩), .agg #[.string s, .slice pa pn pc, .int .i64 r, .int .u64 q, .int .i64 t]] w fun e w' => e = .returned (.tuple #[]) ∧
      ∃ g' cap', w'.heap[B]? = some (.cells #[.slice (some ⟨g', 0, none⟩) (n - h + 1) cap', .int .i64 0] 47 (0, 0)) ∧ w'.ownsRow (B + 1) 56 5 (.slice (some ⟨g', 0, none⟩) (n - h + 1) cap') (n - h + 1) (cur.toList.drop (h * 5) ++ [.string s, .slice pa pn pc, .int .i64 r, .int .u64 q, .int .i64 t]) ∧ Below B w w' := by
  have hI : w.cell? ⟨B, 0, none⟩ = some (.slice (some ⟨g, 0, none⟩) n n) := cell_of_row w B 0 _ _ _ hbB
  have hH : w.cell? ⟨B, 1, none⟩ = some (.int .i64 h) := cell_of_row w B 1 _ _ _ hbB
  have f0 := frozen_of_row w B 0 _ _ hbB
  have f1 := frozen_of_row w B 1 _ _ hbB
  have lB : B < w.heap.size := lt_of_block hbB
  have lg : g < w.heap.size := lt_of_block hbg
  have HB : Hid (_ = _) := hbB
  have HG : Hid (_ = _) := hbg
  clear hbB hbg
  obtain ⟨i0, hi0, hz0, hz1, hz2⟩ := info_parts Trym.info56
  have HI : Hid (_ ∧ _ ∧ _ ∧ _) := ⟨hi0, hz0, hz1, hz2⟩
  clear hi0 hz0 hz1 hz2
  have b2 : decide (0 < h) = true := decide_eq_true h0
  have b3 : decide ((n : Int) / 2 ≤ (h : Int)) = true := decide_eq_true (by omega)
  have HC : Hid (cur.size = n * 5) := hcs
  have H1 : Hid (∀ v ∈ cur.toList, v.oneCell' = true) := h1c
  clear hcs h1c
  go_enter Trym.func29, Trym.ntmps29
  go_wp2
  go_quiet (fail)
  go_wp2
  obtain ⟨W, hW⟩ : ∃ W, W = (w.alloc (.cells #[.string s, .slice pa pn pc, .int .i64 r, .int .u64 q, .int .i64 t] 56)).drewN nq := ⟨_, rfl⟩
  have gI : W.cell? ⟨B, 0, none⟩ = some (.slice (some ⟨g, 0, none⟩) n n) := by rw [hW]; simp [World.cell?_alloc_lt, lB, hI]
  have gH : W.cell? ⟨B, 1, none⟩ = some (.int .i64 h) := by rw [hW]; simp [World.cell?_alloc_lt, lB, hH]
  have HS : Hid (W.heap.size = w.heap.size + 1) := by rw [hW]; simp [Hid]
  have lX : w.heap.size < W.heap.size := by rw [HS.out]; omega
  have lBW : B < W.heap.size := by omega
  have lgW : g < W.heap.size := by omega
  have GX : Hid (W.heap[w.heap.size]? = some (.cells #[.string s, .slice pa pn pc, .int .i64 r, .int .u64 q, .int .i64 t] 56 (0, 0))) := by rw [hW]; exact heap_alloc_new w _
  have GB : Hid (Below B w W) := by rw [hW]; exact below_drewN ((Below.refl B w).alloc (by omega) _) _
  have GH : Hid (W.heap[B]? = some (.cells #[.slice (some ⟨g, 0, none⟩) n n, .int .i64 h] 47 (0, 0))) := by rw [hW]; exact (Below.heap_alloc _ _ _ lB).trans HB.out
  have GG : Hid (W.heap[g]? = some (.cells cur 56 (0, 0))) := by rw [hW]; exact (Below.heap_alloc _ _ _ lg).trans HG.out
  rw [← hW]
  clear hW hI hH f0 f1 HB HG b2 b3
  generalize w.heap.size = X at *
  have b4 : decide (((n - h : Nat) : Int) ≤ (n : Int) / 4) = true := decide_eq_true (by omega)
  go_quiet ((go_at_call 28; refine Calls.quiet_of (len28 B (some ⟨g, 0, none⟩) n n h _ (by simpa using gI) (by simpa using gH) hn (by omega))))
  obtain ⟨M, hM⟩ : ∃ M, M = n / 2 := ⟨_, rfl⟩
  have HM : Hid (M = n / 2) := hM
  have m1 : n - h < M := by omega
  have m2 : M ≤ 1048576 := by omega
  clear hM
  go_wp2_with (at_make; refine wpList_make_full _ rfl _ _ 45 rfl (B + 1) 56 i0 _ 5 Trym.underlying45 HI.out.1 HI.out.2.1 HI.out.2.2.1 _ _ _ _ M rfl rfl (by have := HM.out; omega) (by have := HM.out; omega) (by rw [HI.out.2.2.2]; omega) (by unfold maxLen; omega) (by simp; omega) ?_)
  intro V hown hgrow
  obtain ⟨cur0, hS, h0s, hbS⟩ := own_cells hown
  obtain ⟨S, hSe⟩ : ∃ S, S = W.heap.size := ⟨_, rfl⟩
  have GS : Hid (V.heap[S]? = some (.cells cur0 56 (0, 0)) ∧ cur0.size = M * 5) := by rw [hSe]; exact ⟨hS, h0s⟩
  have hBS : B + 1 ≤ S := by rw [hSe]; omega
  have hXS : X < S := by rw [hSe]; exact lX
  have hgS : g < S := by rw [hSe]; exact lgW
  replace GX : Hid (V.heap[X]? = some (.cells #[.string s, .slice pa pn pc, .int .i64 r, .int .u64 q, .int .i64 t] 56 (0, 0))) := (hgrow.block X lX (by intro e; cases e)).trans GX.out
  replace GB : Hid (Below B w V) := (below_drewN GB.out _).grown hgrow (by simp; omega) (by intro k e; cases e)
  replace GH : Hid (V.heap[B]? = some (.cells #[.slice (some ⟨g, 0, none⟩) n n, .int .i64 h] 47 (0, 0))) := (hgrow.block B lBW (by intro e; cases e)).trans GH.out
  replace GG : Hid (V.heap[g]? = some (.cells cur 56 (0, 0))) := (hgrow.block g lgW (by intro e; cases e)).trans GG.out
  replace gI : V.cell? ⟨B, 0, none⟩ = some (.slice (some ⟨g, 0, none⟩) n n) := cell_of_row V B 0 _ _ _ GH.out
  replace gH : V.cell? ⟨B, 1, none⟩ = some (.int .i64 h) := cell_of_row V B 1 _ _ _ GH.out
  have HSe : Hid (S = W.heap.size) := hSe
  clear hS h0s hbS hown hgrow hSe
  try rw [← HSe.out]
  clear lX lBW lgW b4
  go_wp2_with fail
  have j0 : (0 : Int) ≤ (h : Int) := Int.natCast_nonneg _
  have j1 : (h : Int) ≤ (n : Int) := by omega
  have hne : ¬ n = h := by omega
  go_region_held3 (fun w' => w'.cell? ⟨B, 0, none⟩ = some (.slice (some ⟨g, 0, none⟩) n n) ∧ w'.cell? ⟨B, 1, none⟩ = some (.int .i64 h))
    (first | (go_keep; done) | exact ⟨row_keep Hw2 (by omega) gI, row_keep Hw2 (by omega) gH⟩)
    ((refine step_copy_sz (by rfl) _ _ 45 45 (by rfl) 56 5 Trym.underlying45 Trym.size56 S 0 M M ⟨g, h * 5, none⟩ (n - h) (n - h) (by rfl) (by rfl) cur0 56 (by exact GS.out.1) (cur.toList.drop (h * 5)) (n - h) (by exact (Nat.min_eq_left (Nat.le_of_lt m1)).symm) (by as_aux_lemma => exact len_drop HC.out) (by as_aux_lemma => exact src_drop GG.out h) (by as_aux_lemma => exact fit_half HC.out GS.out.2 (Nat.le_of_lt m1)) (by as_aux_lemma => exact fun v hv => H1.out v (List.mem_of_mem_drop hv)) ?_; intro w2 Hw2))
  have GV : Hid (w2.heap[S]? = some (.cells (row2 cur cur0 h) 56 (0, 0)) ∧ w2.heap[B]? = some (.cells #[.slice (some ⟨g, 0, none⟩) n n, .int .i64 h] 47 (0, 0)) ∧ w2.heap[X]? = some (.cells #[.string s, .slice pa pn pc, .int .i64 r, .int .u64 q, .int .i64 t] 56 (0, 0)) ∧ Below B w w2) := by
    rw [Hw2.out]
    exact ⟨setRow_heap V.drew S cur0 _ 56 (0, 0) GS.out.1, (setRow_other V.drew S B _ (by omega)).trans GH.out, (setRow_other V.drew S X _ (by omega)).trans GX.out, below_setRow GB.out.drew (by omega) _⟩
  clear GX GB GH GG gI gH Hw2
  have hm0 : 0 < M - (n - h) := by omega
  go_wp2_with fail
  rw [run_clear_row (P := Trym.prog) w2 45 0 56 S ((n - h) * 5) (M - (n - h)) (M - (n - h)) (row2 cur cur0 h) 56 i0 _ _ Trym.underlying45 HI.out.1 HI.out.2.1 hm0 rfl GV.out.1 (by as_aux_lemma => exact fit_clear2 HC.out GS.out.2 (Nat.le_of_lt m1)) (by as_aux_lemma => exact zero_one _)]
  obtain ⟨w3, hw3⟩ : ∃ w3, w3 = w2.setRow S (splice (row2 cur cur0 h).toList ((n - h) * 5) (Builtin.zeroCells (Value.agg #[.string ⟨#[]⟩, .slice none 0 0, .int .i64 0, .int .u64 0, .int .i64 0]).cells (M - (n - h))).toList).toArray := ⟨_, rfl⟩
  rw [← hw3]
  have GZ : Hid (w3.heap[S]? = some (.cells (row3 cur cur0 n h M) 56 (0, 0)) ∧ w3.heap[B]? = some (.cells #[.slice (some ⟨g, 0, none⟩) n n, .int .i64 h] 47 (0, 0)) ∧ w3.heap[X]? = some (.cells #[.string s, .slice pa pn pc, .int .i64 r, .int .u64 q, .int .i64 t] 56 (0, 0)) ∧ Below B w w3) := by
    rw [hw3]
    exact ⟨setRow_heap w2 S _ _ 56 (0, 0) GV.out.1, (setRow_other w2 S B _ (by omega)).trans GV.out.2.1, (setRow_other w2 S X _ (by omega)).trans GV.out.2.2.1, below_setRow GV.out.2.2.2 (by omega) _⟩
  clear hw3 GV
  have hI : w3.cell? ⟨B, 0, none⟩ = some (.slice (some ⟨g, 0, none⟩) n n) := cell_of_row w3 B 0 _ _ _ GZ.out.2.1
  have hH : w3.cell? ⟨B, 1, none⟩ = some (.int .i64 h) := cell_of_row w3 B 1 _ _ _ GZ.out.2.1
  have f0 := frozen_of_row w3 B 0 _ _ GZ.out.2.1
  have f1 := frozen_of_row w3 B 1 _ _ GZ.out.2.1
  have j2 : ((n - h : Nat) : Int) ≤ (M : Int) := by omega
  go_wp2
  obtain ⟨W, hW⟩ : ∃ W, W = (w3.setCell ⟨B, 0, none⟩ (.slice (some ⟨S, 0, none⟩) (n - h) M)).setCell ⟨B, 1, none⟩ (.int .i64 0) := ⟨_, rfl⟩
  rw [← hW]
  have GH : Hid (W.heap[B]? = some (.cells #[.slice (some ⟨S, 0, none⟩) (n - h) M, .int .i64 (0 : Nat)] 47 (0, 0))) := by
    rw [hW]
    exact heap_setCell_same _ B 1 #[.slice (some ⟨S, 0, none⟩) (n - h) M, .int .i64 h] 47 _ (heap_setCell_same _ B 0 #[.slice (some ⟨g, 0, none⟩) n n, .int .i64 h] 47 _ GZ.out.2.1)
  have GX : Hid (W.heap[X]? = some (.cells #[.string s, .slice pa pn pc, .int .i64 r, .int .u64 q, .int .i64 t] 56 (0, 0))) := by
    rw [hW, Hid, Below.heap_setCell _ _ _ _ (by show X ≠ B; omega), Below.heap_setCell _ _ _ _ (by show X ≠ B; omega)]
    exact GZ.out.2.2.1
  have GO : Hid (W.ownsRow (B + 1) 56 5 (.slice (some ⟨S, 0, none⟩) (n - h) M) (n - h) (cur.toList.drop (h * 5))) := by
    rw [hW]
    exact ownsRow_setCell_below (ownsRow_setCell_below (own_row3 HC.out GS.out.2 (Nat.le_of_lt m1) (by unfold maxLen; omega) (by omega) GZ.out.1) (by show B < B + 1; omega) _) (by show B < B + 1; omega) _
  have GB : Hid (Below B w W) := by
    rw [hW]
    exact (GZ.out.2.2.2.setCell (Nat.le_refl _) _).setCell (Nat.le_refl _) _
  clear hW hI hH f0 f1 GZ
  have gI : W.cell? ⟨B, 0, none⟩ = some (.slice (some ⟨S, 0, none⟩) (n - h) M) := cell_of_row W B 0 _ _ _ GH.out
  have gF : W.frozen? ⟨B, 0, none⟩ = false := frozen_of_row W B 0 _ _ GH.out
  have lBW : B < W.heap.size := lt_of_block GH.out
  have x0 : W.cell? ⟨X, 0, none⟩ = some (.string s) := cell_of_row W X 0 _ _ _ GX.out
  have x1 : W.cell? ⟨X, 1, none⟩ = some (.slice pa pn pc) := cell_of_row W X 1 _ _ _ GX.out
  have x2 : W.cell? ⟨X, 2, none⟩ = some (.int .i64 r) := cell_of_row W X 2 _ _ _ GX.out
  have x3 : W.cell? ⟨X, 3, none⟩ = some (.int .u64 q) := cell_of_row W X 3 _ _ _ GX.out
  have x4 : W.cell? ⟨X, 4, none⟩ = some (.int .i64 t) := cell_of_row W X 4 _ _ _ GX.out
  have GN : Hid ((Value.slice (some ⟨S, 0, none⟩) (n - h) M).ownBlock ≠ some B) := own_ne GO.out B (.inl (by omega))
  go_region_law ((refine step_append_lies _ (by rfl) _ _ _ (by rfl) (B + 1) 56 i0 _ 5 64 Trym.underlying45 HI.out.1 HI.out.2.1 HI.out.2.2.1 HI.out.2.2.2 rfl (by omega) _ (n - h) (cur.toList.drop (h * 5)) (by rfl) (by exact GO.out.alloc _) ⟨W.heap.size, 0, none⟩ 1 1 [.string s, .slice pa pn pc, .int .i64 r, .int .u64 q, .int .i64 t] (by rfl) (by rfl) (World.news_of_block (cs := #[.string s, .slice pa pn pc, .int .i64 r, .int .u64 q, .int .i64 t]) (t := 56) (fr := (0, 0)) (heap_alloc_new W _)) (by simp [Value.oneCell']) (by omega) (by unfold maxLen; omega) (by omega) (by simp; omega) (W.heap.size + 1) (by simp) ?_; intro gg cap1 w1 hown1 hgrow hat hlt; have hc1 := grown_keep hgrow lBW GN.out gI; have hf1 := grown_frozen hgrow lBW GN.out gF))
  all_goals go_wp2
  all_goals
    go_end0
    obtain ⟨r1, r2, r3⟩ := push_end lBW ⟨_, _, GO.out⟩ GB.out GH.out hgrow hown1
    exact ⟨rfl, gg, cap1, r1, r2, r3⟩
