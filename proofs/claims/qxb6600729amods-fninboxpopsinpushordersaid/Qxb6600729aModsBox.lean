import Derived.Test.Qxb6600729aModsPushHalf
namespace Go.Proofs.Qxb6600729aMods
open Go.RowKit

/-- A delivery as its five cells. -/
structure Dv where
  s : ByteArray
  pa : Option Addr
  pn : Nat
  pc : Nat
  r : Int
  q : Int
  t : Int

def Dv.cells (d : Dv) : List Value := [.string d.s, .slice d.pa d.pn d.pc, .int .i64 d.r, .int .u64 d.q, .int .i64 d.t]
def Dv.zero : Dv := ⟨⟨#[]⟩, none, 0, 0, 0, 0, 0⟩

def flat : List Dv → List Value
  | [] => []
  | d :: l => d.cells ++ flat l

theorem flat_append : ∀ a b : List Dv, flat (a ++ b) = flat a ++ flat b
  | [], b => rfl
  | d :: a, b => by rw [List.cons_append, flat, flat_append a b, flat, List.append_assoc]

theorem flat_length : ∀ l : List Dv, (flat l).length = l.length * 5
  | [] => rfl
  | d :: l => by rw [flat, List.length_append, flat_length l, List.length_cons]; simp [Dv.cells]; omega

theorem flat_drop : ∀ (l : List Dv) (h : Nat), flat (l.drop h) = (flat l).drop (h * 5)
  | l, 0 => by simp
  | [], h + 1 => by simp [flat]
  | d :: l, h + 1 => by
    rw [List.drop_succ_cons, flat_drop l h, flat]
    have : (h + 1) * 5 = d.cells.length + h * 5 := by simp [Dv.cells]; omega
    rw [this, List.drop_append]
    simp

theorem flat_one : ∀ l : List Dv, ∀ v ∈ flat l, v.oneCell' = true
  | [], v, h => by simp [flat] at h
  | d :: l, v, h => by
    rw [flat, List.mem_append] at h
    rcases h with h | h
    · simp only [Dv.cells, List.mem_cons, List.not_mem_nil, or_false] at h
      rcases h with rfl | rfl | rfl | rfl | rfl <;> rfl
    · exact flat_one l v h

theorem flat_at : ∀ (l : List Dv) (i : Nat) (h : i < l.length) (j : Nat), j < 5 → (flat l)[i * 5 + j]? = (l[i]).cells[j]?
  | d :: l, 0, _, j, hj => by
    rw [flat, List.getElem?_append_left (by simp [Dv.cells]; omega)]
    simp
  | d :: l, i + 1, h, j, hj => by
    have : (i + 1) * 5 + j = d.cells.length + (i * 5 + j) := by simp [Dv.cells]; omega
    rw [flat, this, List.getElem?_append_right (by omega)]
    have e : d.cells.length + (i * 5 + j) - d.cells.length = i * 5 + j := by omega
    rw [e, flat_at l i (by simpa using h) j hj]
    simp

/-- THE INBOX IN MEMORY: its two fields at block B, its array among the later blocks, holding the deliveries L, of which the first h are given out. -/
def Box (w : World) (B : Nat) (L : List Dv) (h : Nat) : Prop :=
  ∃ ao cap, w.heap[B]? = some (.cells #[.slice ao L.length cap, .int .i64 h] 47 (0, 0)) ∧ w.ownsRow (B + 1) 56 5 (.slice ao L.length cap) L.length (flat L)

theorem Box.drewN {w : World} {B : Nat} {L : List Dv} {h : Nat} (b : Box w B L h) (n : Nat) : Box (w.drewN n) B L h := b

theorem push29 (B : Nat) (L : List Dv) (h : Nat) (d : Dv) (w : World) (hb : Box w B L h) (hn : L.length ≤ 1048576) (hh : h < L.length ∨ h = 0) :
    Calls Trym.prog 29 #[.pointer (some ⟨B, 0, none⟩), .agg #[.string d.s, .slice d.pa d.pn d.pc, .int .i64 d.r, .int .u64 d.q, .int .i64 d.t]] w fun e w' => e = .returned (.tuple #[]) ∧
      Below B w w' ∧ (Box w' B (L ++ [d]) h ∨ Box w' B (L.drop h ++ [d]) 0) := by
  obtain ⟨ao, cap, hbB, hown⟩ := hb
  have e1 : flat (L ++ [d]) = flat L ++ [.string d.s, .slice d.pa d.pn d.pc, .int .i64 d.r, .int .u64 d.q, .int .i64 d.t] := by rw [flat_append]; rfl
  by_cases hc : L.length = cap
  · subst hc
    by_cases hno : h = 0 ∨ h < L.length / 2
    · refine (push_plain2 B ao L.length h (flat L) d.s d.pa d.pn d.pc d.r d.q d.t w hbB hown hn hno).mono ?_
      rintro e w' ⟨rfl, g', cap', h1, h2, h3⟩
      refine ⟨rfl, h3, .inl ⟨some ⟨g', 0, none⟩, cap', ?_, ?_⟩⟩
      · rw [List.length_append]; exact h1
      · rw [List.length_append, e1]; exact h2
    · have hlt : h < L.length := by omega
      obtain ⟨g, cap', hv, hbg, _⟩ := hown.form (by omega)
      simp only [Value.slice.injEq, true_and] at hv
      obtain ⟨rfl, rfl⟩ := hv
      obtain ⟨cur, hg, hcs, _⟩ := own_cells hown
      have hcur : cur.toList = flat L := by
        rcases hown.2 with ⟨h', _⟩ | ⟨g', cap', cur', h', _, hg', _, _, hcs', htk⟩
        · simp at h'
        · simp only [Value.slice.injEq, Option.some.injEq, Addr.mk.injEq, and_true, true_and] at h'
          obtain ⟨rfl, rfl⟩ := h'
          rw [hg] at hg'
          simp only [Option.some.injEq, Obj.cells.injEq, and_true] at hg'
          subst hg'
          rw [← htk, List.take_of_length_le (by rw [Array.length_toList, hcs']; exact Nat.le_refl _)]
      have e2 : (L.drop h ++ [d]).length = L.length - h + 1 := by simp
      have e3 : flat (L.drop h ++ [d]) = cur.toList.drop (h * 5) ++ [.string d.s, .slice d.pa d.pn d.pc, .int .i64 d.r, .int .u64 d.q, .int .i64 d.t] := by
        rw [flat_append, flat_drop, hcur]; rfl
      by_cases h4 : L.length - h ≤ L.length / 4
      · refine (push_half B g L.length h cur d.s d.pa d.pn d.pc d.r d.q d.t w hbB hg hcs (by rw [hcur]; exact flat_one L) hbg hn (by omega) (by omega) hlt h4).mono ?_
        rintro e w' ⟨rfl, g', cap', h1, h2, h3⟩
        refine ⟨rfl, h3, .inr ⟨some ⟨g', 0, none⟩, cap', ?_, ?_⟩⟩
        · rw [e2]; exact h1
        · rw [e2, e3]; exact h2
      · refine (push_same B g L.length h cur d.s d.pa d.pn d.pc d.r d.q d.t w hbB hg hcs (by rw [hcur]; exact flat_one L) hbg hn (by omega) (by omega) hlt h4).mono ?_
        rintro e w' ⟨rfl, g', cap', h1, h2, h3⟩
        refine ⟨rfl, h3, .inr ⟨some ⟨g', 0, none⟩, cap', ?_, ?_⟩⟩
        · rw [e2]; exact h1
        · rw [e2, e3]; exact h2
  · refine (push_plain1 B ao L.length cap h (flat L) d.s d.pa d.pn d.pc d.r d.q d.t w hbB hown hn hc).mono ?_
    rintro e w' ⟨rfl, g', cap', h1, h2, h3⟩
    refine ⟨rfl, h3, .inl ⟨some ⟨g', 0, none⟩, cap', ?_, ?_⟩⟩
    · rw [List.length_append]; exact h1
    · rw [List.length_append, e1]; exact h2

theorem Box.cells {w : World} {B : Nat} {L : List Dv} {h : Nat} (b : Box w B L h) : ∃ ao cap, w.cell? ⟨B, 0, none⟩ = some (.slice ao L.length cap) ∧ w.cell? ⟨B, 1, none⟩ = some (.int .i64 h) := by
  obtain ⟨ao, cap, hb, _⟩ := b
  exact ⟨ao, cap, cell_of_row w B 0 _ _ _ hb, cell_of_row w B 1 _ _ _ hb⟩

theorem Box.slot {w : World} {B : Nat} {L : List Dv} {h : Nat} (b : Box w B L h) (i : Nat) (hi : i < L.length) : ∃ g cap cur, B + 1 ≤ g ∧ w.heap[B]? = some (.cells #[.slice (some ⟨g, 0, none⟩) L.length cap, .int .i64 h] 47 (0, 0)) ∧
    w.heap[g]? = some (.cells cur 56 (0, 0)) ∧ cur.size = cap * 5 ∧ L.length ≤ cap ∧ cap ≤ maxLen ∧ cur.toList.take (L.length * 5) = flat L ∧ ∀ j, j < 5 → cur[i * 5 + j]? = (L[i]).cells[j]? := by
  obtain ⟨ao, cap, hb, hown⟩ := b
  obtain ⟨g, cap', hv, hbg, _⟩ := hown.form (by omega)
  simp only [Value.slice.injEq, true_and] at hv
  obtain ⟨rfl, rfl⟩ := hv
  rcases hown.2 with ⟨h', _⟩ | ⟨g', cap', cur, h', _, hg, hlc, hcm, hcs, htk⟩
  · simp at h'
  · simp only [Value.slice.injEq, Option.some.injEq, Addr.mk.injEq, and_true, true_and] at h'
    obtain ⟨rfl, rfl⟩ := h'
    refine ⟨g, cap, cur, hbg, hb, hg, hcs, hlc, hcm, htk, fun j hj => ?_⟩
    rw [← flat_at L i hi j hj, ← htk, List.getElem?_take, if_pos (by omega), Array.getElem?_toList]

theorem zap_toList (cur : Array Value) (h : Nat) : (zap cur h).toList = ((((cur.toList.set (h * 5) (.string ⟨#[]⟩)).set (h * 5 + 1) (.slice none 0 0)).set (h * 5 + 2) (.int .i64 0)).set (h * 5 + 3) (.int .u64 0)).set (h * 5 + 4) (.int .i64 0) := by
  simp [zap, Array.toList_setIfInBounds]

theorem zap_size (cur : Array Value) (h : Nat) : (zap cur h).size = cur.size := by simp [zap]

theorem flat_zap : ∀ (l : List Dv) (h : Nat), h < l.length → ((((((flat l).set (h * 5) (.string ⟨#[]⟩)).set (h * 5 + 1) (.slice none 0 0)).set (h * 5 + 2) (.int .i64 0)).set (h * 5 + 3) (.int .u64 0)).set (h * 5 + 4) (.int .i64 0)) = flat (l.set h Dv.zero)
  | d :: l, 0, _ => by simp [flat, Dv.cells, Dv.zero]
  | d :: l, h + 1, hh => by
    have ih := flat_zap l h (by simpa using hh)
    have e : (h + 1) * 5 = h * 5 + 5 := by omega
    rw [List.set_cons_succ, flat, flat, ← ih, e]
    simp [Dv.cells]

theorem take_zap (cur : Array Value) (l : List Dv) (h : Nat) (hh : h < l.length) (htk : cur.toList.take (l.length * 5) = flat l) : (zap cur h).toList.take (l.length * 5) = flat (l.set h Dv.zero) := by
  rw [zap_toList, List.take_set, List.take_set, List.take_set, List.take_set, List.take_set, htk, flat_zap l h hh]

/-- ZZPop, in the inbox's words. -/
theorem pop14 (B : Nat) (L : List Dv) (h : Nat) (w : World) (hb : Box w B L h) (hn : L.length ≤ 1048576) (hh : h < L.length) :
    Calls Trym.prog 14 #[.pointer (some ⟨B, 0, none⟩)] w fun e w' =>
      e = .returned (.tuple #[.string (L[h]).s, .slice (L[h]).pa (L[h]).pn (L[h]).pc, .int .i64 (L[h]).r, .int .u64 (L[h]).q, .int .i64 (L[h]).t]) ∧ Below B w w' ∧
      Box w' B (if h + 1 = L.length then [] else L.set h Dv.zero) (if h + 1 = L.length then 0 else h + 1) := by
  obtain ⟨g, cap, cur, hBg, hbB, hbg, hcs, hlc, hcm, htk, hat⟩ := hb.slot h hh
  refine (zzpop14 B g L.length cap h cur (L[h]).s (L[h]).pa (L[h]).pn (L[h]).pc (L[h]).r (L[h]).q (L[h]).t w hbB hbg hn hh (by omega) (hat 0 (by omega)) (hat 1 (by omega)) (hat 2 (by omega)) (hat 3 (by omega)) (hat 4 (by omega))).mono ?_
  rintro e w' ⟨rfl, h1, h2, h3⟩
  refine ⟨rfl, ⟨h3.os, h3.tape, h3.output, h3.size, fun k hk => h3.block k (by have := lt_of_block hbB; omega) (by omega) (by omega)⟩, ?_⟩
  by_cases hl : h + 1 = L.length
  · rw [if_pos hl, if_pos hl]
    rw [popped, if_pos hl] at h2
    exact ⟨some ⟨g, 0, none⟩, cap, h2, rfl, .inr ⟨g, cap, _, rfl, hBg, h1, Nat.zero_le _, hcm, by rw [zap_size]; exact hcs, by simp [flat]⟩⟩
  · rw [if_neg hl, if_neg hl]
    rw [popped, if_neg hl] at h2
    refine ⟨some ⟨g, 0, none⟩, cap, by rw [List.length_set]; exact h2, ?_⟩
    rw [List.length_set]
    exact ⟨by rw [flat_length, List.length_set], .inr ⟨g, cap, _, rfl, hBg, h1, hlc, hcm, by rw [zap_size]; exact hcs, take_zap cur L h hh htk⟩⟩

/-- ZZInboxSlot, in the inbox's words. -/
theorem slotAt (B : Nat) (L : List Dv) (h i : Nat) (w : World) (hb : Box w B L h) (hi : i < L.length) :
    Calls Trym.prog 20 #[.pointer (some ⟨B, 0, none⟩), .int .i64 i] w fun e w' =>
      e = .returned (.tuple #[.string (L[i]).s, .slice (L[i]).pa (L[i]).pn (L[i]).pc, .int .i64 (L[i]).r, .int .u64 (L[i]).q, .int .i64 (L[i]).t]) ∧ Below B w w' ∧ Box w' B L h := by
  obtain ⟨g, cap, cur, hBg, hbB, hbg, hcs, hlc, hcm, htk, hat⟩ := hb.slot i hi
  have c := fun j hj => (cell_of_row w g (i * 5 + j) _ _ _ hbg).trans (hat j hj)
  refine (slot20 B g L.length cap i (L[i]).s (L[i]).pa (L[i]).pn (L[i]).pc (L[i]).r (L[i]).q (L[i]).t w (cell_of_row w B 0 _ _ _ hbB) hi (c 0 (by omega)) (c 1 (by omega)) (c 2 (by omega)) (c 3 (by omega)) (c 4 (by omega))).mono ?_
  rintro e w' ⟨rfl, o, k, rfl⟩
  have lB := lt_of_block hbB
  refine ⟨rfl, below_drewN ((Below.refl B w).alloc (by omega) _) _, ?_⟩
  obtain ⟨ao, cap', h1, h2⟩ := hb
  exact ⟨ao, cap', (Below.heap_alloc _ _ _ lB).trans h1, h2.alloc _⟩

/-- ZZPush, in the inbox's words. -/
theorem push21 (B : Nat) (L : List Dv) (h : Nat) (d : Dv) (w : World) (hb : Box w B L h) (hn : L.length ≤ 1048576) (hh : h < L.length ∨ h = 0) :
    Calls Trym.prog 21 #[.pointer (some ⟨B, 0, none⟩), .string d.s, .slice d.pa d.pn d.pc, .int .i64 d.r, .int .u64 d.q, .int .i64 d.t] w fun e w' => e = .returned (.tuple #[]) ∧
      Below B w w' ∧ (Box w' B (L ++ [d]) h ∨ Box w' B (L.drop h ++ [d]) 0) := by
  have HB : Hid (Box w B L h) := hb
  clear hb
  go_enter Trym.func21, Trym.ntmps21
  go_wp2_with fail
  refine (push29 B L h d w HB.out hn hh).mono ?_
  rintro e w1 ⟨rfl, h1, h2⟩
  go_wp2
  go_end0
  exact ⟨rfl, h1, h2⟩
