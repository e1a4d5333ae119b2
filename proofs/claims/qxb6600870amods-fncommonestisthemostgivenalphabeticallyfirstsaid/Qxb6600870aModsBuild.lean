import Derived.Test.Qxb6600870aModsCommonest
namespace Go.Proofs.Qxb6600870aMods
open Go.RowKit Go.Maps

/-- The slice that begins at 'a', at its array's head, holds the list's elements; below block B. -/
def LiesB {α : Type} (B : Nat) (w : World) (a : Option Addr) (xs : List α) (f : α → Value) : Prop :=
  0 < xs.length → ∃ g, g < B ∧ a = some ⟨g, 0, none⟩ ∧ ∀ i (h : i < xs.length), w.cell? ⟨g, i, none⟩ = some (f xs[i])

theorem LiesB.below {α : Type} {B : Nat} {w w' : World} {a : Option Addr} {xs : List α} {f : α → Value} (h : LiesB B w a xs f) (hb : Below B w w') : LiesB B w' a xs f := fun hp => by
  obtain ⟨g, h0, h1, h2⟩ := h hp
  exact ⟨g, h0, h1, fun i hi => (hb.cell (p := ⟨g, i, none⟩) h0).trans (h2 i hi)⟩

/-- The keys as bytes. -/
def keysOf (F : List ByteArray) : List (List UInt8) := F.map (·.data.toList)

theorem keysOf_at (F : List ByteArray) (i : Nat) (h : i < F.length) : (keysOf F).getD i [] = F[i].data.toList := by
  simp [keysOf, List.getD, h]

theorem makeMap29 (w : World) (n : Int) : (Instr.makeMap 29 (some (.int .i64 n))).run Trym.prog w = .ok (.map (some w.heap.size)) (w.alloc (.map #[] 0)) := by
  simp [Instr.makeMap, run_underlying Trym.underlying29, asInt]
  rfl

theorem build_none (a0 a1 : Option Addr) (l0 c0 l1 c1 : Nat) (w : World) :
    Calls Trym.prog 12 #[.slice a0 l0 c0, .slice a1 l1 c1, .int .i64 0, .int .i64 0] w fun e w' => e = .returned (.map (some w.heap.size)) ∧ w' = w.alloc (.map #[] 0) := by
  have hmm := makeMap29
  go_enter Trym.func12, Trym.ntmps12
  go_wp2
  refine wp_loop_rounds 1 ?_
  rw [rounds_succ]
  go_wp2
  go_ret
  exact ⟨rfl, rfl⟩

set_option maxHeartbeats 1000000 in
theorem build12 (g0 g1 c0 c1 n : Nat) (F : List ByteArray) (C : List Int) (w : World) (b0 : g0 < w.heap.size) (b1 : g1 < w.heap.size)
    (h0 : ∀ i (h : i < F.length), w.cell? ⟨g0, i, none⟩ = some (.string F[i])) (h1 : ∀ i (h : i < C.length), w.cell? ⟨g1, i, none⟩ = some (.int .i64 C[i]))
    (hF : ∀ s ∈ F, s.size ≤ maxLen) (hC : ∀ c ∈ C, -9223372036854775808 ≤ c ∧ c ≤ 9223372036854775807) (n0 : n ≤ F.length) (n1 : n ≤ C.length) (hn : n ≤ 1048576) :
    Calls Trym.prog 12 #[.slice (some ⟨g0, 0, none⟩) F.length c0, .slice (some ⟨g1, 0, none⟩) C.length c1, .int .i64 n, .int .i64 0] w fun e w' =>
      e = .returned (.map (some w.heap.size)) ∧ Below w.heap.size w w' ∧ ∃ D : DataW Unit, w'.ownsMap Trym.prog 9 (plainElem Trym.prog 3) w.heap.size n D ∧ Says D (tabTo (keysOf F) C n) := by
  have hmm := makeMap29
  have H0 : Hid (∀ i (h : i < F.length), w.cell? ⟨g0, i, none⟩ = some (.string F[i])) := h0
  have H1 : Hid (∀ i (h : i < C.length), w.cell? ⟨g1, i, none⟩ = some (.int .i64 C[i])) := h1
  have HF : Hid (∀ s ∈ F, s.size ≤ maxLen) := hF
  have HC : Hid (∀ c ∈ C, -9223372036854775808 ≤ c ∧ c ≤ 9223372036854775807) := hC
  clear h0 h1 hF hC
  go_enter Trym.func12, Trym.ntmps12
  go_wp2
  go_loopw [10] (fun i wr => ∃ k : Nat, ∃ D : DataW Unit, k ≤ n ∧ i = .int .i64 k ∧ wr.ownsMap Trym.prog 9 (plainElem Trym.prog 3) w.heap.size k D ∧ Says D (tabTo (keysOf F) C k) ∧ Below w.heap.size w wr)
    (fun i _ => n - (intOf i).toNat)
  case atStart => exact ⟨0, .map [], Nat.zero_le _, rfl, World.ownsMap_made _ _ _ _, Says.empty, (Below.refl _ _).alloc (Nat.le_refl _) _⟩
  case round =>
    obtain ⟨k, D, hk, rfl, hown, hsay, hbel⟩ := hrel
    have HO : Hid (wr.ownsMap Trym.prog 9 (plainElem Trym.prog 3) w.heap.size k D) := hown
    have HY : Hid (Says D (tabTo (keysOf F) C k)) := hsay
    have HB : Hid (Below w.heap.size w wr) := hbel
    clear hown hsay hbel
    by_cases hlt : k < n
    · have q0 : wr.cell? ⟨g0, k, none⟩ = some (.string F[k]) := (HB.out.cell (p := ⟨g0, k, none⟩) b0).trans (H0.out k (by omega))
      have q1 : wr.cell? ⟨g1, k, none⟩ = some (.int .i64 C[k]) := (HB.out.cell (p := ⟨g1, k, none⟩) b1).trans (H1.out k (by omega))
      have hs := HF.out _ (List.getElem_mem (show k < F.length by omega))
      have hc := HC.out _ (List.getElem_mem (show k < C.length by omega))
      have hnew : Says (D.put (.string F[k].data.toList) (.lit (.int .i64 C[k]))) (tabTo (keysOf F) C (k + 1)) := by
        have := HY.out.put F[k].data.toList C[k]
        rw [tabTo, keysOf_at F k (by omega), show C.getD k 0 = C[k] from by simp [List.getD, show k < C.length by omega]]
        exact this
      obtain ⟨w1, hrun, hown1, hgrow1⟩ := HO.out.drew.update law Trym.underlying29 (by unfold maxLen; omega) (Go.WideMaps.keyOf_string_mk Trym.underlying9 hs) (plainElem_int (H := Unit) Trym.underlying3 (a := C[k]) (WalkArith.wf_i64 (by omega)))
      have HO1 : Hid (w1.ownsMap Trym.prog 9 (plainElem Trym.prog 3) w.heap.size (k + 1) (D.put (.string F[k].data.toList) (.lit (.int .i64 C[k])))) := hown1
      have HN : Hid (Says (D.put (.string F[k].data.toList) (.lit (.int .i64 C[k]))) (tabTo (keysOf F) C (k + 1))) := hnew
      have HB1 : Hid (Below w.heap.size w w1) := HB.out.drew.grown hgrow1 HB.out.size (by intro j e; cases e; exact Nat.le_refl _)
      obtain ⟨c, hce⟩ : ∃ c, c = C[k] := ⟨_, rfl⟩
      obtain ⟨s, hse⟩ : ∃ s, s = F[k] := ⟨_, rfl⟩
      rw [← hce] at q1 hrun hc
      rw [← hse] at q0 hrun
      obtain ⟨l1, l2⟩ := hc
      have j0 : (0 : Int) ≤ (k : Int) := Int.natCast_nonneg _
      have j1 : (k : Int) < (F.length : Int) := by omega
      have j2 : (k : Int) < (C.length : Int) := by omega
      clear hown1 hgrow1 hnew hs hce hse
      go_wp2
      go_region
      all_goals go_wp2
      go_roundw
      case rel => exact ⟨k + 1, _, by omega, by go_num, HO1.out, HN.out, HB1.out⟩
      case measure => simp [intOf]; omega
    · go_wp2
      go_ret
      obtain rfl : k = n := by omega
      exact ⟨rfl, HB.out, D, HO.out, HY.out⟩

end Go.Proofs.Qxb6600870aMods
