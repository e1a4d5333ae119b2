import Derived.Test.Qxb6600729aModsGet
namespace Go.Proofs.Qxb6600729aMods
open Go.RowKit

/-- The window's address. -/
def payA (a : Option Addr) (np s : Nat) : Option Addr := if np = s then a else a.map (·.add s)
/-- The cut's length, at most all. -/
def payC (np : Nat) (c0 : Int) : Nat := if (np : Int) < c0 then np else c0.toNat
/-- zzInboxPayload: the window's address, length and capacity. -/
def payT (a : Option Addr) (np : Nat) (C : List Int) (k : Nat) : Option Addr × Nat × Nat :=
  if C.length = 0 then (none, 0, 0)
  else if C.getD (k % C.length) 0 < 0 then (none, 0, 0)
  else (payA a np (k % (np - payC np (C.getD (k % C.length) 0) + 1)), payC np (C.getD (k % C.length) 0), np - k % (np - payC np (C.getD (k % C.length) 0) + 1))

theorem ret_slice {a a' : Option Addr} {n n' c c' : Nat} (h1 : a = a') (h2 : n = n') (h3 : c = c') : Ending.returned (.slice a n c) = .returned (.slice a' n' c') := by rw [h1, h2, h3]

set_option maxHeartbeats 2000000 in
theorem payload23 (D : Nat) (a ca : Option Addr) (np : Nat) (C : List Int) (ccap k : Nat) (w : World) (hp : w.cell? ⟨D, 1, none⟩ = some (.slice a np np)) (ha : 0 < np → ∃ g, a = some ⟨g, 0, none⟩) (hd : w.cell? ⟨D, 2, none⟩ = some (.slice ca C.length ccap))
    (hl : Lies w ca C (Value.int .i64)) (hn : C.length ≤ 1048576) (hnp : np ≤ 1048576) (hk : k ≤ 1048576) :
    Calls Trym.prog 23 #[.pointer (some ⟨D, 0, none⟩), .int .i64 k] w fun e w' => e = .returned (.slice (payT a np C k).1 (payT a np C k).2.1 (payT a np C k).2.2) ∧ ∃ q, w' = w.drewN q := by
  by_cases h0 : C.length = 0
  · have h0b : ((C.length : Int) == 0) = true := beq_iff_eq.2 (by omega)
    have HP : Hid (payT a np C k = (none, 0, 0)) := if_pos h0
    clear hl h0 ha
    go_enter Trym.func23, Trym.ntmps23
    go_wp2
    go_ret
    exact ⟨by rw [HP.out]; rfl, 0, rfl⟩
  · have h0b : ((C.length : Int) == 0) = false := beq_eq_false_iff_ne.2 (by omega)
    obtain ⟨g, rfl, hc⟩ := hl (by omega)
    have hlt : k % C.length < C.length := Nat.mod_lt _ (by omega)
    obtain ⟨z, hz⟩ : ∃ z, z = C.getD (k % C.length) 0 := ⟨_, rfl⟩
    have hcx := hc _ hlt
    rw [show C[k % C.length] = z from by rw [hz]; simp [List.getD, hlt]] at hcx
    have m0 : (0 : Int) ≤ (k : Int) % (C.length : Int) := by omega
    have m1 : (k : Int) % (C.length : Int) < (C.length : Int) := Int.emod_lt_of_pos _ (by omega)
    by_cases hneg : z < 0
    · have HP : Hid (payT a np C k = (none, 0, 0)) := by
        show payT a np C k = _
        rw [payT, if_neg h0, ← hz, if_pos hneg]
      clear hc hl hz h0 hlt ha
      go_enter Trym.func23, Trym.ntmps23
      go_wp2
      go_quiet (fail)
      go_wp2
      go_ret
      exact ⟨by rw [HP.out]; rfl, _, rfl⟩
    · have HP : Hid (payT a np C k = (payA a np (k % (np - payC np z + 1)), payC np z, np - k % (np - payC np z + 1))) := by
        show payT a np C k = _
        rw [payT, if_neg h0, ← hz, if_neg hneg]
      clear hc hl hz h0 hlt
      by_cases hbig : (np : Int) < z
      · have e1 : payC np z = np := if_pos hbig
        rw [e1, Nat.sub_self, Nat.zero_add, Nat.mod_one] at HP
        clear e1
        by_cases hnp0 : np = 0
        · subst hnp0
          clear ha
          go_enter Trym.func23, Trym.ntmps23
          go_wp2
          go_quiet (fail)
          go_wp2
          go_ret
          exact ⟨by rw [HP.out]; rfl, _, rfl⟩
        · obtain ⟨gp, rfl⟩ := ha (by omega)
          clear ha
          go_enter Trym.func23, Trym.ntmps23
          go_wp2
          go_quiet (fail)
          go_wp2
          go_ret
          exact ⟨by rw [HP.out]; exact ret_slice (by simp [payA, hnp0, Addr.add]) rfl rfl, _, rfl⟩
      · obtain ⟨c, rfl⟩ := Int.eq_ofNat_of_zero_le (show 0 ≤ z by omega)
        have e1 : payC np (c : Int) = c := by rw [payC, if_neg hbig]; rfl
        rw [e1] at HP
        clear e1
        obtain ⟨s, hs⟩ : ∃ s, s = k % (np - c + 1) := ⟨_, rfl⟩
        rw [← hs] at HP
        have hsl : s < np - c + 1 := by rw [hs]; exact Nat.mod_lt _ (by omega)
        have hse : (k : Int) % ((np : Int) - (c : Int) + 1) = (s : Int) := by
          rw [show ((np : Int) - (c : Int) + 1) = ((np - c + 1 : Nat) : Int) from by omega, ← Int.natCast_emod, hs]
        clear hs
        have hcn : (c : Int) ≤ (np : Int) := by omega
        have hsn : (s : Int) + (c : Int) ≤ (np : Int) := by omega
        by_cases hns : np = s
        · have hc0 : c = 0 := by omega
          have HA : Hid (payA a np s = a) := if_pos hns
          rw [HA.out] at HP
          subst hns hc0
          have hse1 : (k : Int) % ((np : Int) + 1) = (np : Int) := by simpa using hse
          rw [Nat.sub_self] at HP
          rw [show ((0 : Nat) : Int) = 0 from rfl] at hcx
          clear ha HA hse hsn hcn hsl hbig hneg
          go_enter Trym.func23, Trym.ntmps23
          go_wp2
          go_quiet (fail)
          go_wp2
          go_ret
          exact ⟨by rw [HP.out]; rfl, _, rfl⟩
        · obtain ⟨gp, rfl⟩ := ha (by omega)
          have HA : Hid (payA (some ⟨gp, 0, none⟩) np s = some ⟨gp, s, none⟩) := by
            show payA _ _ _ = _
            rw [payA, if_neg hns, Option.map_some, Addr.add_lit, Nat.zero_add]
          rw [HA.out] at HP
          clear ha HA
          go_enter Trym.func23, Trym.ntmps23
          go_wp2
          go_quiet (fail)
          go_wp2
          go_ret
          exact ⟨by rw [HP.out]; exact ret_slice rfl (Nat.add_sub_cancel_left _ _) rfl, _, rfl⟩
