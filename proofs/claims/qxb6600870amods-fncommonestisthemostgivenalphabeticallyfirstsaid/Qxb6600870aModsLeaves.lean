import Derived.Test.Qxb6600870aModsClone
namespace Go.Proofs.Qxb6600870aMods
open Go.RowKit

/-- A bool comes back, the world stands; where it is true no slice is longer than 1<<20. -/
def SizesSaid (n0 n1 : Nat) (w : World) (e : Ending) (w' : World) : Prop :=
  ∃ b, e = .returned (.bool b) ∧ w' = w ∧ (b = true → n0 ≤ 1048576 ∧ n1 ≤ 1048576)

set_option maxHeartbeats 4000000 in
theorem bytes6 (a0 a1 : Option Addr) (n1 c0 c1 : Nat) (F : List ByteArray) (w : World)
    (hz : F.length = 0 ∨ ∃ b off, a0 = some ⟨b, off, none⟩ ∧ ∀ i (h : i < F.length), w.cell? ⟨b, off + i, none⟩ = some (.string F[i])) :
    Calls Trym.prog 6 #[.slice a0 F.length c0, .slice a1 n1 c1] w fun e w' => SizesSaid F.length n1 w e w' := by
  by_cases h1 : (F.length : Int) ≤ 1048576
  · go_enter Trym.func6, Trym.ntmps6
    go_wp2
    go_loop [5, 6] (fun t i => ∃ k tot : Nat, k ≤ F.length ∧ (tot : Int) ≤ 1048576 ∧ t = .int .i64 tot ∧ i = .int .i64 k) (fun _ i => F.length - (intOf i).toNat)
    case atStart => exact ⟨0, F.length, Nat.zero_le _, by omega, by go_num, rfl⟩
    case round =>
      obtain ⟨k, tot, hk, ht, rfl, rfl⟩ := hrel
      by_cases hlt : k < F.length
      · rcases hz with hz | ⟨b, off, rfl, hz⟩
        · omega
        · have hcx := hz k hlt
          clear hz
          obtain ⟨s, hs⟩ : ∃ s, s = F[k] := ⟨_, rfl⟩
          rw [← hs] at hcx
          clear hs
          by_cases g1 : (s.size : Int) ≤ 1048576
          · by_cases g2 : (tot : Int) + (s.size : Int) ≤ 1048576
            · go_wp2
              go_round
              case rel => exact ⟨k + 1, tot + s.size, by omega, by omega, by go_num, by go_num⟩
              case measure => simp [intOf]; omega
            · go_wp2
              go_ret
              exact ⟨false, rfl, rfl, by simp⟩
          · go_wp2
            go_ret
            exact ⟨false, rfl, rfl, by simp⟩
      · clear hz
        go_wp2
        all_goals go_ret
        all_goals first
          | exact ⟨false, rfl, rfl, by simp⟩
          | exact ⟨true, rfl, rfl, fun _ => ⟨by omega, by omega⟩⟩
  · clear hz
    go_enter Trym.func6, Trym.ntmps6
    go_wp2
    go_ret
    exact ⟨false, rfl, rfl, by simp⟩

set_option maxHeartbeats 4000000 in
theorem sizes7 (a0 a1 : Option Addr) (n1 c0 c1 : Nat) (F : List ByteArray) (w : World)
    (hz : F.length = 0 ∨ ∃ b off, a0 = some ⟨b, off, none⟩ ∧ ∀ i (h : i < F.length), w.cell? ⟨b, off + i, none⟩ = some (.string F[i]))
    (h0 : (F.length : Int) ≤ 1048576) (h1 : (n1 : Int) ≤ 1048576) :
    Calls Trym.prog 7 #[.slice a0 F.length c0, .slice a1 n1 c1] w fun e w' => SizesSaid F.length n1 w e w' := by
  by_cases hb : 8 * (n1 : Int) + 16 * (F.length : Int) ≤ 1048576
  · obtain ⟨t0, ht0⟩ : ∃ t0 : Nat, t0 = 8 * n1 + 16 * F.length := ⟨_, rfl⟩
    have HT : Hid (t0 = 8 * n1 + 16 * F.length) := ht0
    clear ht0
    have l0 : (F.length : Int) ≤ 65536 := by omega
    have l1 : (n1 : Int) ≤ 131072 := by omega
    go_enter Trym.func7, Trym.ntmps7
    go_wp2
    go_loop [5, 6] (fun t i => ∃ k tot : Nat, k ≤ F.length ∧ (tot : Int) ≤ 1048576 ∧ t = .int .i64 tot ∧ i = .int .i64 k) (fun _ i => F.length - (intOf i).toNat)
    case atStart => exact ⟨0, t0, Nat.zero_le _, by have := HT.out; omega, by have := HT.out; go_num, rfl⟩
    case round =>
      obtain ⟨k, tot, hk, ht, rfl, rfl⟩ := hrel
      by_cases hlt : k < F.length
      · rcases hz with hz | ⟨b, off, rfl, hz⟩
        · omega
        · have hcx := hz k hlt
          clear hz
          obtain ⟨s, hs⟩ : ∃ s, s = F[k] := ⟨_, rfl⟩
          rw [← hs] at hcx
          clear hs
          by_cases g1 : (s.size : Int) ≤ 1048576
          · by_cases g2 : (tot : Int) + (s.size : Int) ≤ 1048576
            · go_wp2
              go_round
              case rel => exact ⟨k + 1, tot + s.size, by omega, by omega, by go_num, by go_num⟩
              case measure => simp [intOf]; omega
            · go_wp2
              go_ret
              exact ⟨false, rfl, rfl, by simp⟩
          · go_wp2
            go_ret
            exact ⟨false, rfl, rfl, by simp⟩
      · clear hz
        go_wp2
        go_ret
        exact ⟨true, rfl, rfl, fun _ => ⟨by omega, by omega⟩⟩
  · clear hz
    by_cases l0 : (F.length : Int) ≤ 65536
    · by_cases l1 : (n1 : Int) ≤ 131072
      · go_enter Trym.func7, Trym.ntmps7
        go_wp2
        go_ret
        exact ⟨false, rfl, rfl, by simp⟩
      · go_enter Trym.func7, Trym.ntmps7
        go_wp2
        go_ret
        exact ⟨false, rfl, rfl, by simp⟩
    · go_enter Trym.func7, Trym.ntmps7
      go_wp2
      go_ret
      exact ⟨false, rfl, rfl, by simp⟩

theorem pairs8 (a0 a1 : Option Addr) (n0 n1 c0 c1 : Nat) (w : World) :
    Calls Trym.prog 8 #[.slice a0 n0 c0, .slice a1 n1 c1] w fun e w' => e = .returned (.int .i64 (min n0 n1 : Nat)) ∧ w' = w := by
  by_cases h : (n1 : Int) < (n0 : Int)
  · go_enter Trym.func8, Trym.ntmps8
    go_wp2
    go_ret
    exact ⟨by rw [Nat.min_eq_right (by omega)]; rfl, rfl⟩
  · go_enter Trym.func8, Trym.ntmps8
    go_wp2
    go_ret
    exact ⟨by rw [Nat.min_eq_left (by omega)]; rfl, rfl⟩

/-- A bool comes back, the world stands; where it is true none of the first n strings is empty. -/
def NoneEmpty (F : List ByteArray) (n : Nat) (w : World) (e : Ending) (w' : World) : Prop :=
  ∃ b, e = .returned (.bool b) ∧ w' = w ∧ (b = true → ∀ i (h : i < F.length), i < n → F[i].toList.isEmpty = false)

set_option maxHeartbeats 1000000 in
theorem noEmpty9 (a0 : Option Addr) (n c0 : Nat) (F : List ByteArray) (w : World) (hn : n ≤ F.length) (hl : F.length ≤ 1048576)
    (hz : F.length = 0 ∨ ∃ b off, a0 = some ⟨b, off, none⟩ ∧ ∀ i (h : i < F.length), w.cell? ⟨b, off + i, none⟩ = some (.string F[i])) :
    Calls Trym.prog 9 #[.slice a0 F.length c0, .int .i64 n] w fun e w' => NoneEmpty F n w e w' := by
  go_enter Trym.func9, Trym.ntmps9
  go_wp2
  go_loop [5] (fun i => ∃ k : Nat, k ≤ n ∧ i = .int .i64 k ∧ ∀ i (h : i < F.length), i < k → F[i].toList.isEmpty = false) (fun i => n - (intOf i).toNat)
  case atStart => exact ⟨0, Nat.zero_le _, rfl, fun i _ hi => by omega⟩
  case round =>
    obtain ⟨k, hk, rfl, hall⟩ := hrel
    have HA : Hid (∀ i (h : i < F.length), i < k → F[i].toList.isEmpty = false) := hall
    clear hall
    by_cases hlt : k < n
    · rcases hz with hz | ⟨b, off, rfl, hz⟩
      · omega
      · have hcx := hz k (by omega)
        clear hz
        have j0 : (0 : Int) ≤ (k : Int) := Int.natCast_nonneg _
        have j1 : (k : Int) < (F.length : Int) := by omega
        obtain ⟨s, hs⟩ : ∃ s, s = F[k] := ⟨_, rfl⟩
        rw [← hs] at hcx
        have HE : Hid (s = F[k]) := hs
        clear hs
        cases hse : s.toList.isEmpty
        · have HN : Hid (∀ i (h : i < F.length), i < k + 1 → F[i].toList.isEmpty = false) := fun i h hi => by
            by_cases e : i = k
            · subst e; rw [← HE.out]; exact hse
            · exact HA.out i h (by omega)
          go_wp2
          go_round
          case rel => exact ⟨k + 1, by omega, by go_num, HN.out⟩
          case measure => simp [intOf]; omega
        · go_wp2
          go_ret
          exact ⟨false, rfl, rfl, by simp⟩
    · clear hz
      go_wp2
      go_ret
      exact ⟨true, rfl, rfl, fun _ i h hi => HA.out i h (by omega)⟩

end Go.Proofs.Qxb6600870aMods
