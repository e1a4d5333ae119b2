import Derived.Test.Qxb6600729aModsClone
namespace Go.Proofs.Qxb6600729aMods
open Go.RowKit

/-- A bool comes back, the world stands; where it is true no slice is longer than 1<<20. -/
def SizesSaid (n0 n1 n2 n3 n4 n5 n6 : Nat) (w : World) (e : Ending) (w' : World) : Prop :=
  ∃ b, e = .returned (.bool b) ∧ w' = w ∧ (b = true → n0 ≤ 1048576 ∧ n1 ≤ 1048576 ∧ n2 ≤ 1048576 ∧ n3 ≤ 1048576 ∧ n4 ≤ 1048576 ∧ n5 ≤ 1048576 ∧ n6 ≤ 1048576)
/-- A number comes back, the world stands. -/
def SomeInt (w : World) (e : Ending) (w' : World) : Prop := ∃ v : Int, e = .returned (.int .i64 v) ∧ w' = w

set_option maxHeartbeats 4000000 in
theorem bytes5_core (a0 a1 a2 a3 a4 a5 a6 : Option Addr) (n0 n2 n3 n4 n5 n6 c0 c1 c2 c3 c4 c5 c6 : Nat) (F : List ByteArray) (w : World)
    (hz : F.length = 0 ∨ ∃ b off, a1 = some ⟨b, off, none⟩ ∧ ∀ i (h : i < F.length), w.cell? ⟨b, off + i, none⟩ = some (.string F[i])) :
    Calls Trym.prog 5 #[.slice a0 n0 c0, .slice a1 F.length c1, .slice a2 n2 c2, .slice a3 n3 c3, .slice a4 n4 c4, .slice a5 n5 c5, .slice a6 n6 c6] w fun e w' => SizesSaid n0 F.length n2 n3 n4 n5 n6 w e w' := by
  by_cases h0 : (n0 : Int) ≤ 1048576
  · by_cases h1 : (F.length : Int) ≤ 1048576
    · by_cases h2 : (n0 : Int) + (F.length : Int) ≤ 1048576
      · go_enter Trym.func5, Trym.ntmps5
        go_wp2
        go_loop [15, 16] (fun t i => ∃ k tot : Nat, k ≤ F.length ∧ (tot : Int) ≤ 1048576 ∧ t = .int .i64 tot ∧ i = .int .i64 k) (fun _ i => F.length - (intOf i).toNat)
        case atStart => exact ⟨0, n0 + F.length, Nat.zero_le _, by omega, by go_num, rfl⟩
        case round =>
          obtain ⟨k, tot, hk, ht, rfl, rfl⟩ := hrel
          by_cases hlt : k < F.length
          · rcases hz with hz | ⟨b, off, rfl, hz⟩
            · omega
            · have hcx := hz k hlt
              clear hz
              obtain ⟨s, hs⟩ : ∃ s, s = F[k] := ⟨_, rfl⟩
              rw [← hs] at hcx
              clear hs
              by_cases g1 : (s.size : Int) ≤ 1048576
              · by_cases g2 : (tot : Int) + (s.size : Int) ≤ 1048576
                · go_wp2
                  go_round
                  case rel => exact ⟨k + 1, tot + s.size, by omega, by omega, by go_num, by go_num⟩
                  case measure => simp [intOf]; omega
                · go_wp2
                  go_ret
                  exact ⟨false, rfl, rfl, by simp⟩
              · go_wp2
                go_ret
                exact ⟨false, rfl, rfl, by simp⟩
          · clear hz
            go_wp2
            all_goals go_ret
            all_goals first
              | exact ⟨false, rfl, rfl, by simp⟩
              | exact ⟨true, rfl, rfl, fun _ => ⟨by omega, by omega, by omega, by omega, by omega, by omega, by omega⟩⟩
      · clear hz
        go_enter Trym.func5, Trym.ntmps5
        go_wp2
        go_ret
        exact ⟨false, rfl, rfl, by simp⟩
    · clear hz
      go_enter Trym.func5, Trym.ntmps5
      go_wp2
      go_ret
      exact ⟨false, rfl, rfl, by simp⟩
  · clear hz
    go_enter Trym.func5, Trym.ntmps5
    go_wp2
    go_ret
    exact ⟨false, rfl, rfl, by simp⟩

set_option maxHeartbeats 4000000 in
theorem bytes17_core (a0 a1 a2 a3 a4 a5 a6 : Option Addr) (n0 n2 n3 n4 n5 n6 c0 c1 c2 c3 c4 c5 c6 : Nat) (F : List ByteArray) (w : World)
    (hz : F.length = 0 ∨ ∃ b off, a1 = some ⟨b, off, none⟩ ∧ ∀ i (h : i < F.length), w.cell? ⟨b, off + i, none⟩ = some (.string F[i])) :
    Calls Trym.prog 17 #[.slice a0 n0 c0, .slice a1 F.length c1, .slice a2 n2 c2, .slice a3 n3 c3, .slice a4 n4 c4, .slice a5 n5 c5, .slice a6 n6 c6] w fun e w' => SizesSaid n0 F.length n2 n3 n4 n5 n6 w e w' := by
  by_cases h0 : (n0 : Int) ≤ 1048576
  · by_cases h1 : (F.length : Int) ≤ 1048576
    · by_cases h2 : (n0 : Int) + (F.length : Int) ≤ 1048576
      · go_enter Trym.func17, Trym.ntmps17
        go_wp2
        go_loop [15, 16] (fun t i => ∃ k tot : Nat, k ≤ F.length ∧ (tot : Int) ≤ 1048576 ∧ t = .int .i64 tot ∧ i = .int .i64 k) (fun _ i => F.length - (intOf i).toNat)
        case atStart => exact ⟨0, n0 + F.length, Nat.zero_le _, by omega, by go_num, rfl⟩
        case round =>
          obtain ⟨k, tot, hk, ht, rfl, rfl⟩ := hrel
          by_cases hlt : k < F.length
          · rcases hz with hz | ⟨b, off, rfl, hz⟩
            · omega
            · have hcx := hz k hlt
              clear hz
              obtain ⟨s, hs⟩ : ∃ s, s = F[k] := ⟨_, rfl⟩
              rw [← hs] at hcx
              clear hs
              by_cases g1 : (s.size : Int) ≤ 1048576
              · by_cases g2 : (tot : Int) + (s.size : Int) ≤ 1048576
                · go_wp2
                  go_round
                  case rel => exact ⟨k + 1, tot + s.size, by omega, by omega, by go_num, by go_num⟩
                  case measure => simp [intOf]; omega
                · go_wp2
                  go_ret
                  exact ⟨false, rfl, rfl, by simp⟩
              · go_wp2
                go_ret
                exact ⟨false, rfl, rfl, by simp⟩
          · clear hz
            go_wp2
            all_goals go_ret
            all_goals first
              | exact ⟨false, rfl, rfl, by simp⟩
              | exact ⟨true, rfl, rfl, fun _ => ⟨by omega, by omega, by omega, by omega, by omega, by omega, by omega⟩⟩
      · clear hz
        go_enter Trym.func17, Trym.ntmps17
        go_wp2
        go_ret
        exact ⟨false, rfl, rfl, by simp⟩
    · clear hz
      go_enter Trym.func17, Trym.ntmps17
      go_wp2
      go_ret
      exact ⟨false, rfl, rfl, by simp⟩
  · clear hz
    go_enter Trym.func17, Trym.ntmps17
    go_wp2
    go_ret
    exact ⟨false, rfl, rfl, by simp⟩

set_option maxHeartbeats 4000000 in
theorem bytes6_core (a0 a1 a2 a3 a4 a5 a6 : Option Addr) (n0 n2 n3 n4 n5 n6 c0 c1 c2 c3 c4 c5 c6 : Nat) (F : List ByteArray) (w : World)
    (hz : F.length = 0 ∨ ∃ b off, a1 = some ⟨b, off, none⟩ ∧ ∀ i (h : i < F.length), w.cell? ⟨b, off + i, none⟩ = some (.string F[i]))
    (h0 : (n0 : Int) ≤ 1048576) (h1 : (F.length : Int) ≤ 1048576) (h2 : (n2 : Int) ≤ 1048576) (h3 : (n3 : Int) ≤ 1048576) (h4 : (n4 : Int) ≤ 1048576) (h5 : (n5 : Int) ≤ 1048576) (h6 : (n6 : Int) ≤ 1048576) :
    Calls Trym.prog 6 #[.slice a0 n0 c0, .slice a1 F.length c1, .slice a2 n2 c2, .slice a3 n3 c3, .slice a4 n4 c4, .slice a5 n5 c5, .slice a6 n6 c6] w fun e w' => SomeInt w e w' := by
  by_cases hb : (n0 : Int) + n2 + 16 * F.length + 8 * n3 + 8 * n4 + 8 * n5 + 8 * n6 ≤ 1048576
  · obtain ⟨t0, ht0⟩ : ∃ t0 : Nat, t0 = n0 + n2 + 16 * F.length + 8 * n3 + 8 * n4 + 8 * n5 + 8 * n6 := ⟨_, rfl⟩
    have HT : Hid (t0 = n0 + n2 + 16 * F.length + 8 * n3 + 8 * n4 + 8 * n5 + 8 * n6) := ht0
    clear ht0
    go_enter Trym.func6, Trym.ntmps6
    go_wp2
    go_loop [15, 16] (fun t i => ∃ k tot : Nat, k ≤ F.length ∧ (tot : Int) ≤ 1048576 ∧ t = .int .i64 tot ∧ i = .int .i64 k) (fun _ i => F.length - (intOf i).toNat)
    case atStart => exact ⟨0, t0, Nat.zero_le _, by have := HT.out; omega, by have := HT.out; go_num, rfl⟩
    case round =>
      obtain ⟨k, tot, hk, ht, rfl, rfl⟩ := hrel
      by_cases hlt : k < F.length
      · rcases hz with hz | ⟨b, off, rfl, hz⟩
        · omega
        · have hcx := hz k hlt
          clear hz
          obtain ⟨s, hs⟩ : ∃ s, s = F[k] := ⟨_, rfl⟩
          rw [← hs] at hcx
          clear hs
          by_cases g1 : (s.size : Int) ≤ 1048576
          · by_cases g2 : (tot : Int) + (s.size : Int) ≤ 1048576
            · go_wp2
              go_round
              case rel => exact ⟨k + 1, tot + s.size, by omega, by omega, by go_num, by go_num⟩
              case measure => simp [intOf]; omega
            · go_wp2
              go_ret
              exact ⟨_, rfl, rfl⟩
          · go_wp2
            go_ret
            exact ⟨_, rfl, rfl⟩
      · clear hz
        go_wp2
        go_ret
        exact ⟨_, rfl, rfl⟩
  · clear hz
    go_enter Trym.func6, Trym.ntmps6
    go_wp2
    go_ret
    exact ⟨_, rfl, rfl⟩
