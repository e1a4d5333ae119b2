import Derived.Test.Qxb6600729aModsSmall
namespace Go.Proofs.Qxb6600729aMods
open Go.RowKit

/-- The slice that begins at 'a' holds the list's elements. -/
def Lies {α : Type} (w : World) (a : Option Addr) (xs : List α) (f : α → Value) : Prop :=
  0 < xs.length → ∃ g, a = some ⟨g, 0, none⟩ ∧ ∀ i (h : i < xs.length), w.cell? ⟨g, i, none⟩ = some (f xs[i])

/-- d.ranks[k%len(d.ranks)], or k. -/
def pickI (xs : List Int) (k : Nat) : Int := if xs.length = 0 then k else xs.getD (k % xs.length) 0

/-- d.froms[k%len(d.froms)], or the empty string. -/
def pickS (xs : List ByteArray) (k : Nat) : ByteArray := if xs.length = 0 then ⟨#[]⟩ else xs.getD (k % xs.length) ⟨#[]⟩

set_option maxHeartbeats 1000000 in
theorem rank24 (D : Nat) (a : Option Addr) (xs : List Int) (cap k : Nat) (w : World) (hd : w.cell? ⟨D, 3, none⟩ = some (.slice a xs.length cap)) (hl : Lies w a xs (Value.int .i64)) (hn : xs.length ≤ 1048576) :
    Calls Trym.prog 24 #[.pointer (some ⟨D, 0, none⟩), .int .i64 k] w fun e w' => e = .returned (.int .i64 (pickI xs k)) ∧ ∃ q, w' = w.drewN q := by
  by_cases h0 : xs.length = 0
  · have h0b : ((xs.length : Int) == 0) = true := beq_iff_eq.2 (by omega)
    have HP : Hid (pickI xs k = k) := if_pos h0
    clear hl h0
    go_enter Trym.func24, Trym.ntmps24
    go_wp2
    go_ret
    exact ⟨by rw [HP.out]; rfl, 0, rfl⟩
  · have h0b : ((xs.length : Int) == 0) = false := beq_eq_false_iff_ne.2 (by omega)
    obtain ⟨g, rfl, hc⟩ := hl (by omega)
    have hlt : k % xs.length < xs.length := Nat.mod_lt _ (by omega)
    have HP : Hid (pickI xs k = xs[k % xs.length]) := by
      show pickI xs k = _
      rw [pickI, if_neg h0]; simp [List.getD, hlt]
    have hcx := hc _ hlt
    have m0 : (0 : Int) ≤ (k : Int) % (xs.length : Int) := by omega
    have m1 : (k : Int) % (xs.length : Int) < (xs.length : Int) := Int.emod_lt_of_pos _ (by omega)
    obtain ⟨z, hz⟩ : ∃ z, z = xs[k % xs.length] := ⟨_, rfl⟩
    rw [← hz] at HP hcx
    clear hc hl hz h0 hlt
    go_enter Trym.func24, Trym.ntmps24
    go_wp2
    go_quiet (fail)
    go_wp2
    go_ret
    exact ⟨by rw [HP.out]; rfl, _, rfl⟩

set_option maxHeartbeats 1000000 in
theorem weight26 (D : Nat) (a : Option Addr) (xs : List Int) (cap k : Nat) (w : World) (hd : w.cell? ⟨D, 5, none⟩ = some (.slice a xs.length cap)) (hl : Lies w a xs (Value.int .i64)) (hn : xs.length ≤ 1048576) :
    Calls Trym.prog 26 #[.pointer (some ⟨D, 0, none⟩), .int .i64 k] w fun e w' => e = .returned (.int .i64 (pickI xs k)) ∧ ∃ q, w' = w.drewN q := by
  by_cases h0 : xs.length = 0
  · have h0b : ((xs.length : Int) == 0) = true := beq_iff_eq.2 (by omega)
    have HP : Hid (pickI xs k = k) := if_pos h0
    clear hl h0
    go_enter Trym.func26, Trym.ntmps26
    go_wp2
    go_ret
    exact ⟨by rw [HP.out]; rfl, 0, rfl⟩
  · have h0b : ((xs.length : Int) == 0) = false := beq_eq_false_iff_ne.2 (by omega)
    obtain ⟨g, rfl, hc⟩ := hl (by omega)
    have hlt : k % xs.length < xs.length := Nat.mod_lt _ (by omega)
    have HP : Hid (pickI xs k = xs[k % xs.length]) := by
      show pickI xs k = _
      rw [pickI, if_neg h0]; simp [List.getD, hlt]
    have hcx := hc _ hlt
    have m0 : (0 : Int) ≤ (k : Int) % (xs.length : Int) := by omega
    have m1 : (k : Int) % (xs.length : Int) < (xs.length : Int) := Int.emod_lt_of_pos _ (by omega)
    obtain ⟨z, hz⟩ : ∃ z, z = xs[k % xs.length] := ⟨_, rfl⟩
    rw [← hz] at HP hcx
    clear hc hl hz h0 hlt
    go_enter Trym.func26, Trym.ntmps26
    go_wp2
    go_quiet (fail)
    go_wp2
    go_ret
    exact ⟨by rw [HP.out]; rfl, _, rfl⟩

set_option maxHeartbeats 1000000 in
theorem seq25 (D : Nat) (a : Option Addr) (xs : List Int) (cap k : Nat) (w : World) (hd : w.cell? ⟨D, 4, none⟩ = some (.slice a xs.length cap)) (hl : Lies w a xs (Value.int .u64)) (hn : xs.length ≤ 1048576) (hk : k ≤ 1048576) :
    Calls Trym.prog 25 #[.pointer (some ⟨D, 0, none⟩), .int .i64 k] w fun e w' => e = .returned (.int .u64 (pickI xs k)) ∧ ∃ q, w' = w.drewN q := by
  by_cases h0 : xs.length = 0
  · have h0b : ((xs.length : Int) == 0) = true := beq_iff_eq.2 (by omega)
    have HP : Hid (pickI xs k = k) := if_pos h0
    clear hl h0
    go_enter Trym.func25, Trym.ntmps25
    go_wp2
    go_ret
    exact ⟨by rw [HP.out]; rfl, 0, rfl⟩
  · have h0b : ((xs.length : Int) == 0) = false := beq_eq_false_iff_ne.2 (by omega)
    obtain ⟨g, rfl, hc⟩ := hl (by omega)
    have hlt : k % xs.length < xs.length := Nat.mod_lt _ (by omega)
    have HP : Hid (pickI xs k = xs[k % xs.length]) := by
      show pickI xs k = _
      rw [pickI, if_neg h0]; simp [List.getD, hlt]
    have hcx := hc _ hlt
    have m0 : (0 : Int) ≤ (k : Int) % (xs.length : Int) := by omega
    have m1 : (k : Int) % (xs.length : Int) < (xs.length : Int) := Int.emod_lt_of_pos _ (by omega)
    obtain ⟨z, hz⟩ : ∃ z, z = xs[k % xs.length] := ⟨_, rfl⟩
    rw [← hz] at HP hcx
    clear hc hl hz h0 hlt
    go_enter Trym.func25, Trym.ntmps25
    go_wp2
    go_quiet (fail)
    go_wp2
    go_ret
    exact ⟨by rw [HP.out]; rfl, _, rfl⟩

set_option maxHeartbeats 1000000 in
theorem from22 (D : Nat) (a : Option Addr) (xs : List ByteArray) (cap k : Nat) (w : World) (hd : w.cell? ⟨D, 0, none⟩ = some (.slice a xs.length cap)) (hl : Lies w a xs Value.string) (hn : xs.length ≤ 1048576) :
    Calls Trym.prog 22 #[.pointer (some ⟨D, 0, none⟩), .int .i64 k] w fun e w' => e = .returned (.string (pickS xs k)) ∧ ∃ q, w' = w.drewN q := by
  by_cases h0 : xs.length = 0
  · have h0b : ((xs.length : Int) == 0) = true := beq_iff_eq.2 (by omega)
    have HP : Hid (pickS xs k = ⟨#[]⟩) := if_pos h0
    clear hl h0
    go_enter Trym.func22, Trym.ntmps22
    go_wp2
    go_ret
    exact ⟨by rw [HP.out]; rfl, 0, rfl⟩
  · have h0b : ((xs.length : Int) == 0) = false := beq_eq_false_iff_ne.2 (by omega)
    obtain ⟨g, rfl, hc⟩ := hl (by omega)
    have hlt : k % xs.length < xs.length := Nat.mod_lt _ (by omega)
    have HP : Hid (pickS xs k = xs[k % xs.length]) := by
      show pickS xs k = _
      rw [pickS, if_neg h0]; simp [List.getD, hlt]
    have hcx := hc _ hlt
    have m0 : (0 : Int) ≤ (k : Int) % (xs.length : Int) := by omega
    have m1 : (k : Int) % (xs.length : Int) < (xs.length : Int) := Int.emod_lt_of_pos _ (by omega)
    obtain ⟨z, hz⟩ : ∃ z, z = xs[k % xs.length] := ⟨_, rfl⟩
    rw [← hz] at HP hcx
    clear hc hl hz h0 hlt
    go_enter Trym.func22, Trym.ntmps22
    go_wp2
    go_quiet (fail)
    go_wp2
    go_ret
    exact ⟨by rw [HP.out]; rfl, _, rfl⟩
