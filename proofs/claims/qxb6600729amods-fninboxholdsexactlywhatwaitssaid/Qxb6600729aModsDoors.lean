import Derived.Test.Qxb6600729aModsPop
namespace Go.Proofs.Qxb6600729aMods
open Go.RowKit

set_option maxHeartbeats 1000000 in
set_option maxRecDepth 100000 in
theorem zzpop14 (B g n cap h : Nat) (cur : Array Value) (s : ByteArray) (pa : Option Addr) (pn pc : Nat) (r q t : Int) (w : World)
    (hbB : w.heap[B]? = some (.cells #[.slice (some ⟨g, 0, none⟩) n cap, .int .i64 h] 47 (0, 0))) (hbg : w.heap[g]? = some (.cells cur 56 (0, 0))) (hn : n ≤ 1048576) (hhn : h < n) (hBg : ¬ B = g)
    (c0 : cur[h * 5]? = some (.string s)) (c1 : cur[h * 5 + 1]? = some (.slice pa pn pc)) (c2 : cur[h * 5 + 2]? = some (.int .i64 r))
    (c3 : cur[h * 5 + 3]? = some (.int .u64 q)) (c4 : cur[h * 5 + 4]? = some (.int .i64 t)) :
    Calls Trym.prog 14 #[.pointer (some ⟨B, 0, none⟩)] w fun e w' => e = .returned (.tuple #[.string s, .slice pa pn pc, .int .i64 r, .int .u64 q, .int .i64 t]) ∧
      w'.heap[g]? = some (.cells (zap cur h) 56 (0, 0)) ∧ w'.heap[B]? = some (.cells (popped g n cap h) 47 (0, 0)) ∧ Kept B g w w' := by
  go_enter Trym.func14, Trym.ntmps14
  go_wp2_with fail
  refine (pop27 B g n cap h cur s pa pn pc r q t w hbB hbg hn hhn hBg c0 c1 c2 c3 c4).mono ?_
  rintro e w1 ⟨rfl, hg1, hb1, hk⟩
  have HG : Hid (_ = _) := hg1
  have HB : Hid (_ = _) := hb1
  have HK : Hid (Kept B g w w1) := hk
  clear hg1 hb1 hk hbB hbg c0 c1 c2 c3 c4
  go_wp2
  go_quiet (fail)
  go_wp2
  refine bodyPost_ret (v := .tuple #[.string s, .slice pa pn pc, .int .i64 r, .int .u64 q, .int .i64 t]) ?_ rfl ⟨rfl, ?_, ?_, ?_⟩
  · simp [results, Trym.results14, go_sem]
  · exact (Below.heap_alloc _ _ _ (lt_of_block HG.out)).trans HG.out
  · exact (Below.heap_alloc _ _ _ (lt_of_block HB.out)).trans HB.out
  · exact (HK.out.alloc _).drewN _

theorem zzlen16 (B : Nat) (ao : Option Addr) (n cap : Nat) (h : Nat) (w : World) (hI : w.cell? ⟨B, 0, none⟩ = some (.slice ao n cap)) (hH : w.cell? ⟨B, 1, none⟩ = some (.int .i64 h)) (hn : n ≤ 1048576) (hhn : h ≤ n) :
    Calls Trym.prog 16 #[.pointer (some ⟨B, 0, none⟩)] w fun e w' => e = .returned (.int .i64 ((n - h : Nat) : Int)) ∧ ∃ q, w' = w.drewN q := by
  go_enter Trym.func16, Trym.ntmps16
  go_wp2_with fail
  refine (len28 B ao n cap h w hI hH hn hhn).mono ?_
  rintro e w1 ⟨rfl, q, rfl⟩
  go_wp2
  go_ret
  exact ⟨rfl, q, rfl⟩

theorem head18 (B : Nat) (h : Nat) (w : World) (hH : w.cell? ⟨B, 1, none⟩ = some (.int .i64 h)) :
    Calls Trym.prog 18 #[.pointer (some ⟨B, 0, none⟩)] w fun e w' => e = .returned (.int .i64 h) ∧ w' = w := by
  go_enter Trym.func18, Trym.ntmps18
  go_wp2
  go_ret
  exact ⟨rfl, rfl⟩

theorem items19 (B : Nat) (ao : Option Addr) (n cap : Nat) (w : World) (hI : w.cell? ⟨B, 0, none⟩ = some (.slice ao n cap)) :
    Calls Trym.prog 19 #[.pointer (some ⟨B, 0, none⟩)] w fun e w' => e = .returned (.int .i64 n) ∧ w' = w := by
  go_enter Trym.func19, Trym.ntmps19
  go_wp2
  go_ret
  exact ⟨rfl, rfl⟩

set_option maxHeartbeats 1000000 in
set_option maxRecDepth 100000 in
theorem slot20 (B g n cap i : Nat) (s : ByteArray) (pa : Option Addr) (pn pc : Nat) (r q t : Int) (w : World)
    (hI : w.cell? ⟨B, 0, none⟩ = some (.slice (some ⟨g, 0, none⟩) n cap)) (hin : i < n)
    (d0 : w.cell? ⟨g, i * 5, none⟩ = some (.string s)) (d1 : w.cell? ⟨g, i * 5 + 1, none⟩ = some (.slice pa pn pc)) (d2 : w.cell? ⟨g, i * 5 + 2, none⟩ = some (.int .i64 r))
    (d3 : w.cell? ⟨g, i * 5 + 3, none⟩ = some (.int .u64 q)) (d4 : w.cell? ⟨g, i * 5 + 4, none⟩ = some (.int .i64 t)) :
    Calls Trym.prog 20 #[.pointer (some ⟨B, 0, none⟩), .int .i64 i] w fun e w' => e = .returned (.tuple #[.string s, .slice pa pn pc, .int .i64 r, .int .u64 q, .int .i64 t]) ∧
      ∃ o k, w' = (w.alloc o).drewN k := by
  have i0 : (0 : Int) ≤ (i : Int) := Int.natCast_nonneg _
  have i1 : (i : Int) < (n : Int) := by omega
  go_enter Trym.func20, Trym.ntmps20
  go_wp2
  go_quiet (fail)
  go_wp2
  refine bodyPost_ret (v := .tuple #[.string s, .slice pa pn pc, .int .i64 r, .int .u64 q, .int .i64 t]) ?_ rfl ⟨rfl, _, _, rfl⟩
  simp [results, Trym.results20, go_sem]
