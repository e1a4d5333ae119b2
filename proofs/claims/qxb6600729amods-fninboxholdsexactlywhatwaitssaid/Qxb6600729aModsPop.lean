import Derived.Test.Qxb6600729aModsSmall
namespace Go.Proofs.Qxb6600729aMods
open Go.RowKit

/-- All blocks that were there are as they were, but for B and g. -/
structure Kept (B g : Nat) (w w' : World) : Prop where
  os : w'.os = w.os
  tape : w'.tape = w.tape
  output : w'.output = w.output
  size : w.heap.size ≤ w'.heap.size
  block : ∀ k, k < w.heap.size → k ≠ B → k ≠ g → w'.heap[k]? = w.heap[k]?

theorem Kept.refl (B g : Nat) (w : World) : Kept B g w w := ⟨rfl, rfl, rfl, Nat.le_refl _, fun _ _ _ _ => rfl⟩
theorem Kept.drew {B g : Nat} {w w' : World} (h : Kept B g w w') : Kept B g w w'.drew := ⟨h.os, h.tape, h.output, h.size, h.block⟩
theorem Kept.drewN {B g : Nat} {w w' : World} (h : Kept B g w w') (n : Nat) : Kept B g w (w'.drewN n) := ⟨h.os, h.tape, h.output, h.size, h.block⟩
theorem Kept.alloc {B g : Nat} {w w' : World} (h : Kept B g w w') (o : Obj) : Kept B g w (w'.alloc o) :=
  ⟨h.os, h.tape, h.output, by have := h.size; simp; omega, fun k hk h1 h2 => by have := h.size; rw [Below.heap_alloc _ _ _ (by omega)]; exact h.block k hk h1 h2⟩
theorem Kept.setCell {B g : Nat} {w w' : World} (h : Kept B g w w') (a : Addr) (ha : a.block = B ∨ a.block = g) (v : Value) : Kept B g w (w'.setCell a v) :=
  ⟨h.os, h.tape, h.output, by have := h.size; simp [World.setCell]; omega, fun k hk h1 h2 => by
    rw [Below.heap_setCell _ _ _ _ (by rcases ha with ha | ha <;> rw [ha] <;> assumption)]; exact h.block k hk h1 h2⟩

/-- The cells of element h, zeroed. -/
def zap (cur : Array Value) (h : Nat) : Array Value :=
  ((((cur.setIfInBounds (h * 5) (.string ⟨#[]⟩)).setIfInBounds (h * 5 + 1) (.slice none 0 0)).setIfInBounds (h * 5 + 2) (.int .i64 0)).setIfInBounds (h * 5 + 3) (.int .u64 0)).setIfInBounds (h * 5 + 4) (.int .i64 0)

/-- The world behind the five stores. -/
def zapW (w : World) (g h : Nat) : World :=
  ((((w.setCell ⟨g, h * 5, none⟩ (.string ⟨#[]⟩)).setCell ⟨g, h * 5 + 1, none⟩ (.slice none 0 0)).setCell ⟨g, h * 5 + 2, none⟩ (.int .i64 0)).setCell ⟨g, h * 5 + 3, none⟩ (.int .u64 0)).setCell ⟨g, h * 5 + 4, none⟩ (.int .i64 0)

theorem zapW_same (w : World) (g h : Nat) (cur : Array Value) (hg : w.heap[g]? = some (.cells cur 56 (0, 0))) : (zapW w g h).heap[g]? = some (.cells (zap cur h) 56 (0, 0)) := by
  unfold zapW zap
  exact heap_setCell_same _ _ _ _ _ _ (heap_setCell_same _ _ _ _ _ _ (heap_setCell_same _ _ _ _ _ _ (heap_setCell_same _ _ _ _ _ _ (heap_setCell_same _ _ _ _ _ _ hg))))

theorem zapW_other (w : World) (g h k : Nat) (hk : k ≠ g) : (zapW w g h).heap[k]? = w.heap[k]? := by
  unfold zapW
  rw [Below.heap_setCell _ _ _ _ hk, Below.heap_setCell _ _ _ _ hk, Below.heap_setCell _ _ _ _ hk, Below.heap_setCell _ _ _ _ hk, Below.heap_setCell _ _ _ _ hk]

theorem zapW_size (w : World) (g h : Nat) : (zapW w g h).heap.size = w.heap.size := by simp [zapW, World.setCell]

theorem zapW_kept (w : World) (B g h : Nat) : Kept B g w (zapW w g h) :=
  (((((Kept.refl B g w).setCell _ (.inr rfl) _).setCell _ (.inr rfl) _).setCell _ (.inr rfl) _).setCell _ (.inr rfl) _).setCell _ (.inr rfl) _

theorem far_keep {w w' : World} {B j : Nat} {v : Value} (h : w'.heap[B]? = w.heap[B]?) (hc : w.cell? ⟨B, j, none⟩ = some v) : w'.cell? ⟨B, j, none⟩ = some v :=
  (World.cell?_of_block (w := w) (a := ⟨B, j, none⟩) h).trans hc

theorem five_far (w : World) (g h B : Nat) (ob0 ob1 : Obj) (hne : ¬ B = g) (hB : B < w.heap.size) : (((zapW w g h).alloc ob0).alloc ob1).drew.drew.heap[B]? = w.heap[B]? := by
  show (((zapW w g h).alloc ob0).alloc ob1).heap[B]? = _
  rw [Below.heap_alloc _ _ _ (by simp [zapW_size]; omega), Below.heap_alloc _ _ _ (by rw [zapW_size]; exact hB), zapW_other _ _ _ _ hne]

/-- Five stores into block S. -/
def fiveW (w : World) (S : Nat) (y0 y1 y2 y3 y4 : Value) : World :=
  ((((w.setCell ⟨S, 0, none⟩ y0).setCell ⟨S, 1, none⟩ y1).setCell ⟨S, 2, none⟩ y2).setCell ⟨S, 3, none⟩ y3).setCell ⟨S, 4, none⟩ y4

theorem fiveW_other (w : World) (S k : Nat) (y0 y1 y2 y3 y4 : Value) (hk : k ≠ S) : (fiveW w S y0 y1 y2 y3 y4).heap[k]? = w.heap[k]? := by
  unfold fiveW
  rw [Below.heap_setCell _ _ _ _ hk, Below.heap_setCell _ _ _ _ hk, Below.heap_setCell _ _ _ _ hk, Below.heap_setCell _ _ _ _ hk, Below.heap_setCell _ _ _ _ hk]

theorem Kept.setNew {B g : Nat} {w w' : World} (h : Kept B g w w') (a : Addr) (ha : w.heap.size ≤ a.block) (v : Value) : Kept B g w (w'.setCell a v) :=
  ⟨h.os, h.tape, h.output, by have := h.size; simp [World.setCell]; omega, fun k hk h1 h2 => by rw [Below.heap_setCell _ _ _ _ (by omega)]; exact h.block k hk h1 h2⟩

theorem fiveW_kept {B g : Nat} {w w' : World} (h : Kept B g w w') (S : Nat) (hS : w.heap.size ≤ S) (y0 y1 y2 y3 y4 : Value) : Kept B g w (fiveW w' S y0 y1 y2 y3 y4) :=
  ((((h.setNew _ hS _).setNew _ hS _).setNew _ hS _).setNew _ hS _).setNew _ hS _

/-- The inbox's two cells behind a pop. -/
def popped (g n cap h : Nat) : Array Value := if h + 1 = n then #[.slice (some ⟨g, 0, none⟩) 0 cap, .int .i64 0] else #[.slice (some ⟨g, 0, none⟩) n cap, .int .i64 ((h + 1 : Nat) : Int)]

/-- The world behind a pop that leaves something. -/
def moreW (w : World) (B g h k : Nat) (o0 o1 : Obj) : World := ((((zapW w g h).setCell ⟨B, 1, none⟩ (.int .i64 ((h : Int) + 1))).alloc o0).alloc o1).drewN k
/-- The world behind a pop of the last. -/
def lastW (w : World) (B g h k cap : Nat) (o0 o1 : Obj) : World := ((moreW w B g h k o0 o1).setCell ⟨B, 0, none⟩ (.slice (some ⟨g, 0, none⟩) 0 cap)).setCell ⟨B, 1, none⟩ (.int .i64 0)

theorem moreW_kept (w : World) (B g h k : Nat) (o0 o1 : Obj) : Kept B g w (moreW w B g h k o0 o1) := ((((zapW_kept w B g h).setCell _ (.inl rfl) _).alloc _).alloc _).drewN _
theorem lastW_kept (w : World) (B g h k cap : Nat) (o0 o1 : Obj) : Kept B g w (lastW w B g h k cap o0 o1) := ((moreW_kept w B g h k o0 o1).setCell _ (.inl rfl) _).setCell _ (.inl rfl) _

theorem moreW_old (w : World) (B g h k : Nat) (o0 o1 : Obj) (j : Nat) (hj : j < w.heap.size) : (moreW w B g h k o0 o1).heap[j]? = ((zapW w g h).setCell ⟨B, 1, none⟩ (.int .i64 ((h : Int) + 1))).heap[j]? := by
  have e : ((zapW w g h).setCell ⟨B, 1, none⟩ (.int .i64 ((h : Int) + 1))).heap.size = w.heap.size := by rw [← zapW_size w g h]; simp [World.setCell]
  show ((((zapW w g h).setCell ⟨B, 1, none⟩ (.int .i64 ((h : Int) + 1))).alloc o0).alloc o1).heap[j]? = _
  rw [Below.heap_alloc _ _ _ (by simp only [World.size_alloc]; omega), Below.heap_alloc _ _ _ (by omega)]

theorem moreW_g (w : World) (B g h k : Nat) (o0 o1 : Obj) (cur : Array Value) (hg : w.heap[g]? = some (.cells cur 56 (0, 0))) (hne : ¬ B = g) : (moreW w B g h k o0 o1).heap[g]? = some (.cells (zap cur h) 56 (0, 0)) := by
  rw [moreW_old _ _ _ _ _ _ _ _ (lt_of_block hg), Below.heap_setCell _ _ _ _ (fun e => hne e.symm), zapW_same _ _ _ _ hg]

theorem moreW_B (w : World) (B g h k : Nat) (o0 o1 : Obj) (v u : Value) (hb : w.heap[B]? = some (.cells #[v, u] 47 (0, 0))) (hne : ¬ B = g) : (moreW w B g h k o0 o1).heap[B]? = some (.cells #[v, .int .i64 ((h : Int) + 1)] 47 (0, 0)) := by
  rw [moreW_old _ _ _ _ _ _ _ _ (lt_of_block hb)]
  exact heap_setCell_same _ B 1 #[v, u] 47 _ (by rw [zapW_other _ _ _ _ hne]; exact hb)

theorem lastW_g (w : World) (B g h k cap : Nat) (o0 o1 : Obj) (cur : Array Value) (hg : w.heap[g]? = some (.cells cur 56 (0, 0))) (hne : ¬ B = g) : (lastW w B g h k cap o0 o1).heap[g]? = some (.cells (zap cur h) 56 (0, 0)) := by
  unfold lastW
  rw [Below.heap_setCell _ _ _ _ (fun e => hne e.symm), Below.heap_setCell _ _ _ _ (fun e => hne e.symm), moreW_g _ _ _ _ _ _ _ _ hg hne]

theorem lastW_B (w : World) (B g h k cap : Nat) (o0 o1 : Obj) (v u : Value) (hb : w.heap[B]? = some (.cells #[v, u] 47 (0, 0))) (hne : ¬ B = g) : (lastW w B g h k cap o0 o1).heap[B]? = some (.cells #[.slice (some ⟨g, 0, none⟩) 0 cap, .int .i64 0] 47 (0, 0)) :=
  heap_setCell_same _ B 1 #[.slice (some ⟨g, 0, none⟩) 0 cap, .int .i64 ((h : Int) + 1)] 47 _ (heap_setCell_same _ B 0 #[v, .int .i64 ((h : Int) + 1)] 47 _ (moreW_B w B g h k o0 o1 v u hb hne))

set_option maxHeartbeats 2000000 in
set_option maxRecDepth 100000 in
theorem pop27 (B g n cap h : Nat) (cur : Array Value) (s : ByteArray) (pa : Option Addr) (pn pc : Nat) (r q t : Int) (w : World)
    (hbB : w.heap[B]? = some (.cells #[.slice (some ⟨g, 0, none⟩) n cap, .int .i64 h] 47 (0, 0))) (hbg : w.heap[g]? = some (.cells cur 56 (0, 0))) (hn : n ≤ 1048576) (hhn : h < n) (hBg : ¬ B = g)
    (c0 : cur[h * 5]? = some (.string s)) (c1 : cur[h * 5 + 1]? = some (.slice pa pn pc)) (c2 : cur[h * 5 + 2]? = some (.int .i64 r))
    (c3 : cur[h * 5 + 3]? = some (.int .u64 q)) (c4 : cur[h * 5 + 4]? = some (.int .i64 t)) :
    Calls Trym.prog 27 #[.pointer (some ⟨B, 0, none⟩)] w fun e w' => e = .returned (.agg #[.string s, .slice pa pn pc, .int .i64 r, .int .u64 q, .int .i64 t]) ∧ 
      w'.heap[g]? = some (.cells (zap cur h) 56 (0, 0)) ∧
      w'.heap[B]? = some (.cells (popped g n cap h) 47 (0, 0)) ∧ Kept B g w w' := by
  have hI : w.cell? ⟨B, 0, none⟩ = some (.slice (some ⟨g, 0, none⟩) n cap) := cell_of_row w B 0 _ _ _ hbB
  have hH : w.cell? ⟨B, 1, none⟩ = some (.int .i64 h) := cell_of_row w B 1 _ _ _ hbB
  have f0 := frozen_of_row w B 0 _ _ hbB
  have f1 := frozen_of_row w B 1 _ _ hbB
  have d0 := (cell_of_row w g (h * 5) _ _ _ hbg).trans c0
  have d1 := (cell_of_row w g (h * 5 + 1) _ _ _ hbg).trans c1
  have d2 := (cell_of_row w g (h * 5 + 2) _ _ _ hbg).trans c2
  have d3 := (cell_of_row w g (h * 5 + 3) _ _ _ hbg).trans c3
  have d4 := (cell_of_row w g (h * 5 + 4) _ _ _ hbg).trans c4
  have fr : ∀ j, w.frozen? ⟨g, j, none⟩ = false := fun j => frozen_of_row w g j _ _ hbg
  have lB : B < w.heap.size := World.block_lt_of_cell? w _ hI
  have lg : g < w.heap.size := World.block_lt_of_cell? w _ d0
  have hgB : ¬ g = B := fun e => hBg e.symm
  have HB : Hid (_ = _) := hbB
  have HG : Hid (_ = _) := hbg
  clear hbB hbg c0 c1 c2 c3 c4
  have i0 : (0 : Int) ≤ (h : Int) := Int.natCast_nonneg _
  have i1 : (h : Int) < (n : Int) := by omega
  by_cases hl : h + 1 = n
  · have hlb : ((h : Int) + 1 == (n : Int)) = true := beq_iff_eq.2 (by omega)
    have HL : Hid (h + 1 = n) := hl
    clear hl
    go_enter Trym.func27, Trym.ntmps27
    go_wp2
    go_region_held3 (fun w' => w'.cell? ⟨B, 0, none⟩ = some (.slice (some ⟨g, 0, none⟩) n cap) ∧ w'.cell? ⟨B, 1, none⟩ = some (.int .i64 h) ∧
        w'.cell? ⟨g, h * 5, none⟩ = some (.string s) ∧ w'.cell? ⟨g, h * 5 + 1, none⟩ = some (.slice pa pn pc) ∧ w'.cell? ⟨g, h * 5 + 2, none⟩ = some (.int .i64 r) ∧ w'.cell? ⟨g, h * 5 + 3, none⟩ = some (.int .u64 q) ∧ w'.cell? ⟨g, h * 5 + 4, none⟩ = some (.int .i64 t))
      (go_keep) (fail)
    go_wp2
    go_region_held3 (fun w' => w'.cell? ⟨B, 0, none⟩ = some (.slice (some ⟨g, 0, none⟩) n cap) ∧ w'.cell? ⟨B, 1, none⟩ = some (.int .i64 h))
      (first | (go_keep; done) | exact ⟨far_keep (five_far _ _ _ _ _ _ hBg lB) hI, far_keep (five_far _ _ _ _ _ _ hBg lB) hH⟩) (fail)
    go_wp2
    go_quiet (fail)
    go_wp2
    refine bodyPost_ret (v := .agg #[.string s, .slice pa pn pc, .int .i64 r, .int .u64 q, .int .i64 t]) ?_ rfl ⟨rfl, ?_, ?_, ?_⟩
    · simp [results, Trym.results27, go_sem]
    · exact (fiveW_other _ _ _ _ _ _ _ _ (Nat.ne_of_lt lg)).trans (lastW_g w B g h _ cap _ _ cur HG.out hBg)
    · refine (fiveW_other _ _ _ _ _ _ _ _ (Nat.ne_of_lt lB)).trans ((lastW_B w B g h _ cap _ _ _ _ HB.out hBg).trans ?_)
      rw [popped, if_pos HL.out]
    · exact fiveW_kept (lastW_kept w B g h _ cap _ _) _ (Nat.le_refl _) _ _ _ _ _
  · have hlb : ((h : Int) + 1 == (n : Int)) = false := beq_eq_false_iff_ne.2 (by omega)
    have HL : Hid (¬ h + 1 = n) := hl
    clear hl
    go_enter Trym.func27, Trym.ntmps27
    go_wp2
    go_region_held3 (fun w' => w'.cell? ⟨B, 0, none⟩ = some (.slice (some ⟨g, 0, none⟩) n cap) ∧ w'.cell? ⟨B, 1, none⟩ = some (.int .i64 h) ∧
        w'.cell? ⟨g, h * 5, none⟩ = some (.string s) ∧ w'.cell? ⟨g, h * 5 + 1, none⟩ = some (.slice pa pn pc) ∧ w'.cell? ⟨g, h * 5 + 2, none⟩ = some (.int .i64 r) ∧ w'.cell? ⟨g, h * 5 + 3, none⟩ = some (.int .u64 q) ∧ w'.cell? ⟨g, h * 5 + 4, none⟩ = some (.int .i64 t))
      (go_keep) (fail)
    go_wp2
    go_region_held3 (fun w' => w'.cell? ⟨B, 0, none⟩ = some (.slice (some ⟨g, 0, none⟩) n cap) ∧ w'.cell? ⟨B, 1, none⟩ = some (.int .i64 h))
      (first | (go_keep; done) | exact ⟨far_keep (five_far _ _ _ _ _ _ hBg lB) hI, far_keep (five_far _ _ _ _ _ _ hBg lB) hH⟩) (fail)
    go_wp2
    go_quiet (fail)
    go_wp2
    refine bodyPost_ret (v := .agg #[.string s, .slice pa pn pc, .int .i64 r, .int .u64 q, .int .i64 t]) ?_ rfl ⟨rfl, ?_, ?_, ?_⟩
    · simp [results, Trym.results27, go_sem]
    · exact (fiveW_other _ _ _ _ _ _ _ _ (Nat.ne_of_lt lg)).trans (moreW_g w B g h _ _ _ cur HG.out hBg)
    · refine (fiveW_other _ _ _ _ _ _ _ _ (Nat.ne_of_lt lB)).trans ((moreW_B w B g h _ _ _ _ _ HB.out hBg).trans ?_)
      rw [popped, if_neg HL.out]
      rfl
    · exact fiveW_kept (moreW_kept w B g h _ _ _) _ (Nat.le_refl _) _ _ _ _ _
