import Derived.Test.Qxb6600870aModsLeaves
namespace Go.Proofs.Qxb6600870aMods
open Go.RowKit Go.Maps

theorem LiesB.mono {α : Type} {B B' : Nat} {w : World} {a : Option Addr} {xs : List α} {f : α → Value} (h : LiesB B w a xs f) (hB : B ≤ B') : LiesB B' w a xs f := fun hp => by
  obtain ⟨g, h0, h1, h2⟩ := h hp
  exact ⟨g, by omega, h1, h2⟩

theorem LiesB.up {α : Type} {w w' : World} {a : Option Addr} {xs : List α} {f : α → Value} (h : LiesB w.heap.size w a xs f) (hb : Below w.heap.size w w') : LiesB w'.heap.size w' a xs f :=
  (h.below hb).mono hb.size

theorem Src.cases {w : World} {a : Option Addr} {xs : List ByteArray} (h : Src w a xs Value.string) : xs.length = 0 ∨ ∃ b off, a = some ⟨b, off, none⟩ ∧ ∀ i (h : i < xs.length), w.cell? ⟨b, off + i, none⟩ = some (.string xs[i]) := by
  by_cases h0 : xs.length = 0
  · exact .inl h0
  · exact .inr (h (by omega))

/-- An argument: a slice whose elements are the list's. -/
structure Arg {α : Type} (w : World) (a : Option Addr) (xs : List α) (cap : Nat) (f : α → Value) : Prop where
  nil : a = none → xs.length = 0 ∧ cap = 0
  src : Src w a xs f

theorem Arg.below {α : Type} {w w' : World} {a : Option Addr} {xs : List α} {cap : Nat} {f : α → Value} (h : Arg w a xs cap f) (hb : Below w.heap.size w w') : Arg w' a xs cap f := ⟨h.nil, h.src.below hb⟩

theorem below_up {w w1 w2 : World} (h : Below w.heap.size w w1) (k : Below w1.heap.size w1 w2) : Below w.heap.size w w2 := h.trans (k.mono h.size)

theorem MapAt.below {w w' : World} {b n : Nat} {M : Tab} (h : MapAt w b n M) (hb : Below w.heap.size w w') : MapAt w' b n M := by
  obtain ⟨D, ⟨es, clock, h1, h2, h3, h4⟩, hs⟩ := h
  exact ⟨D, ⟨es, clock, (hb.block b (lt_of_block h1)).trans h1, h2, h3, h4⟩, hs⟩

/-- The map that zzBuild makes. -/
theorem build (a0 a1 : Option Addr) (c0 c1 n : Nat) (F : List ByteArray) (C : List Int) (w : World)
    (h0 : LiesB w.heap.size w a0 F Value.string) (h1 : LiesB w.heap.size w a1 C (Value.int .i64))
    (hF : ∀ s ∈ F, s.size ≤ maxLen) (hC : ∀ c ∈ C, -9223372036854775808 ≤ c ∧ c ≤ 9223372036854775807) (n0 : n ≤ F.length) (n1 : n ≤ C.length) (hn : n ≤ 1048576) :
    Calls Trym.prog 12 #[.slice a0 F.length c0, .slice a1 C.length c1, .int .i64 n, .int .i64 0] w fun e w' =>
      e = .returned (.map (some w.heap.size)) ∧ Below w.heap.size w w' ∧ MapAt w' w.heap.size n (tabTo (keysOf F) C n) := by
  by_cases hz : n = 0
  · subst hz
    refine (build_none a0 a1 F.length c0 C.length c1 w).mono ?_
    rintro e w' ⟨rfl, rfl⟩
    exact ⟨rfl, (Below.refl _ _).alloc (Nat.le_refl _) _, .map [], World.ownsMap_made _ _ _ _, Says.empty⟩
  · obtain ⟨g0, b0, rfl, k0⟩ := h0 (by omega)
    obtain ⟨g1, b1, rfl, k1⟩ := h1 (by omega)
    refine (build12 g0 g1 c0 c1 n F C w b0 b1 k0 k1 hF hC n0 n1 hn).mono ?_
    rintro e w' ⟨rfl, hb, D, ho, hs⟩
    exact ⟨rfl, hb, D, ho, hs⟩

theorem commonest13 (b n : Nat) (M : Tab) (w : World) (h : MapAt w b n M) (h0 : M [] = none) :
    Calls Trym.prog 13 #[.map (some b)] w fun e w' => ∃ r : ByteArray, e = .returned (.string r) ∧ r.size ≤ maxLen ∧ Best M r.data.toList ∧ Below w.heap.size w w' := by
  obtain ⟨D, ho, hs⟩ := h
  have HS : Hid (Says D M) := hs
  have HO : Hid (w.ownsMap Trym.prog 9 (plainElem Trym.prog 3) b n D) := ho
  have H0 : Hid (M [] = none) := h0
  clear hs ho h0
  go_enter Trym.func13, Trym.ntmps13
  go_wp2_with fail
  refine (commonest17 b n D M w HO.out HS.out H0.out).mono ?_
  rintro e w' ⟨r, rfl, hr, hb, hw⟩
  have HB : Hid (Best M r.data.toList) := hb
  have HW : Hid (Below w.heap.size w w') := hw
  clear hb hw
  go_wp2
  go_ret
  exact ⟨r, rfl, hr, HB.out, HW.out⟩

theorem isEmpty_data (s : ByteArray) (h : s.toList.isEmpty = false) : s.data.toList ≠ [] := by
  rw [ByteArray.toList_eq] at h
  intro e
  rw [e] at h
  cases h

/-- The law in the map's words: where none of the first n is empty, the map has no empty key. -/
theorem tab_no_empty (F : List ByteArray) (C : List Int) (n : Nat) (hn : n ≤ F.length) (h : ∀ i (h : i < F.length), i < n → F[i].toList.isEmpty = false) : tabTo (keysOf F) C n [] = none := by
  cases ht : tabTo (keysOf F) C n [] with
  | none => rfl
  | some c =>
    obtain ⟨i, hi, hk⟩ := tab_key _ _ _ _ _ ht
    rw [keysOf_at F i (by omega)] at hk
    exact absurd hk (isEmpty_data _ (h i (by omega) hi))

set_option maxHeartbeats 4000000 in
theorem law3 (a0 a1 : Option Addr) (c0 c1 : Nat) (F : List ByteArray) (C : List Int) (w : World) (s0 : Arg w a0 F c0 Value.string) (s1 : Arg w a1 C c1 (Value.int .i64))
    (hF : ∀ s ∈ F, s.size ≤ maxLen) (hC : ∀ c ∈ C, -9223372036854775808 ≤ c ∧ c ≤ 9223372036854775807) :
    Calls Trym.prog 3 #[.slice a0 F.length c0, .slice a1 C.length c1] w fun e w' => e = .returned (.bool true) ∧ Below w.heap.size w w' := by
  have S0 : Hid (Arg w a0 F c0 Value.string) := s0
  have S1 : Hid (Arg w a1 C c1 (Value.int .i64)) := s1
  have HF : Hid (∀ s ∈ F, s.size ≤ maxLen) := hF
  have HC : Hid (∀ c ∈ C, -9223372036854775808 ≤ c ∧ c ≤ 9223372036854775807) := hC
  clear s0 s1 hF hC
  go_enter Trym.func3, Trym.ntmps3
  go_wp2_with fail
  refine (bytes6 a0 a1 C.length c0 c1 F w S0.out.src.cases).mono ?_
  rintro e w' ⟨b, rfl, hw, hsz⟩; obtain rfl := hw.symm; clear hw
  cases b
  · clear hsz
    go_wp2
    go_ret
    exact ⟨rfl, Below.refl _ _⟩
  · obtain ⟨z0, z1⟩ := hsz rfl
    clear hsz
    go_wp2_with fail
    refine (sizes7 a0 a1 C.length c0 c1 F w S0.out.src.cases (by omega) (by omega)).mono ?_
    rintro e w' ⟨b, rfl, hw, hsz⟩; obtain rfl := hw.symm; clear hw hsz
    cases b
    · go_wp2
      go_ret
      exact ⟨rfl, Below.refl _ _⟩
    · go_wp2_with fail
      refine (pairs8 a0 a1 F.length C.length c0 c1 w).mono ?_
      rintro e w' ⟨rfl, hw⟩; obtain rfl := hw.symm; clear hw
      obtain ⟨n, hn⟩ : ∃ n, n = min F.length C.length := ⟨_, rfl⟩
      rw [← hn]
      have n0 : n ≤ F.length := by omega
      have n1 : n ≤ C.length := by omega
      clear hn
      go_wp2_with fail
      refine (noEmpty9 a0 n c0 F w n0 z0 S0.out.src.cases).mono ?_
      rintro e w' ⟨b, rfl, hw, hne⟩; obtain rfl := hw.symm; clear hw
      cases b
      · clear hne
        go_wp2
        go_ret
        exact ⟨rfl, Below.refl _ _⟩
      · have H0 : Hid (tabTo (keysOf F) C n [] = none) := tab_no_empty F C n n0 (hne rfl)
        clear hne
        go_wp2_with fail
        refine (cloneS a0 F c0 w S0.out.nil S0.out.src z0).mono ?_
        rintro e w1 ⟨b0, rfl, l0, e1⟩
        have L0 : Hid (LiesB w1.heap.size w1 b0 F Value.string) := l0
        have E1 : Hid (Below w.heap.size w w1) := e1
        clear l0 e1
        go_wp2_with fail
        refine (cloneI a1 C c1 w1 S1.out.nil (S1.out.below E1.out).src z1).mono ?_
        rintro e w2 ⟨b1, rfl, l1, e2⟩
        have L1 : Hid (LiesB w2.heap.size w2 b1 C (Value.int .i64)) := l1
        replace L0 : Hid (LiesB w2.heap.size w2 b0 F Value.string) := L0.out.up e2
        have E2 : Hid (Below w.heap.size w w2) := below_up E1.out e2
        clear l1 e2 E1
        go_wp2_with fail
        refine (build b0 b1 F.length C.length n F C w2 L0.out L1.out HF.out HC.out n0 n1 (by omega)).mono ?_
        rintro e w3 ⟨rfl, e3, hm⟩
        obtain ⟨B, hB⟩ : ∃ B, B = w2.heap.size := ⟨_, rfl⟩
        rw [← hB] at hm ⊢
        have HM : Hid (MapAt w3 B n (tabTo (keysOf F) C n)) := hm
        replace L0 : Hid (LiesB w3.heap.size w3 b0 F Value.string) := L0.out.up e3
        have E3 : Hid (Below w.heap.size w w3) := below_up E2.out e3
        clear hm e3 E2 L1 hB
        go_wp2_with fail
        refine (commonest13 B n _ w3 HM.out H0.out).mono ?_
        rintro e w4 ⟨r, rfl, hr, hbest, e4⟩
        replace L0 : Hid (LiesB w4.heap.size w4 b0 F Value.string) := L0.out.up e4
        replace HM : Hid (MapAt w4 B n (tabTo (keysOf F) C n)) := HM.out.below e4
        have E4 : Hid (Below w.heap.size w w4) := below_up E3.out e4
        have HB : Hid (Best (tabTo (keysOf F) C n) r.data.toList) := hbest
        clear hbest e4 E3
        by_cases hz : n = 0
        · subst hz
          have hre : r.toList.isEmpty = true := by
            rw [ByteArray.toList_eq]
            rcases HB.out with ⟨h, _⟩ | ⟨k, h, _⟩
            · rw [h]; rfl
            · cases h
          go_wp2
          go_ret
          exact ⟨rfl, E4.out⟩
        · obtain ⟨g, lg, rfl, hc⟩ := L0.out (by omega)
          have HL : Hid (∀ i (h : i < F.length), w4.cell? ⟨g, i, none⟩ = some (.string F[i])) := hc
          obtain ⟨D, hown, hsay⟩ := HM.out
          obtain ⟨k, hk, hbest⟩ : ∃ k, tabTo (keysOf F) C n r.data.toList = some k ∧ ∀ s c, tabTo (keysOf F) C n s = some c → ¬ k < c ∧ ¬ (c = k ∧ Op.bytesLess s r.data.toList = true) := by
            rcases HB.out with ⟨h, hall⟩ | h
            · obtain ⟨c, hc⟩ := tab_has (keysOf F) C n 0 (by omega)
              rw [hall] at hc
              cases hc
            · exact h
          have hlk := look_ok hown hsay r hr
          rw [hk] at hlk
          simp only [Option.getD_some, Option.isSome_some] at hlk
          have HX : Hid (∀ s c, tabTo (keysOf F) C n s = some c → ¬ k < c ∧ ¬ (c = k ∧ Op.bytesLess s r.data.toList = true)) := hbest
          have HO : Hid (w4.ownsMap Trym.prog 9 (plainElem Trym.prog 3) B n D) := hown
          have HY : Hid (Says D (tabTo (keysOf F) C n)) := hsay
          clear hc hown hsay hk hbest
          have nz : ((n : Int) == 0) = false := by simp [hz]
          go_wp2
          go_loop [10, 11, 12] (fun i _ _ => ∃ j : Nat, j ≤ n ∧ i = .int .i64 j) (fun i _ _ => n - (intOf i).toNat)
          case atStart => exact ⟨0, Nat.zero_le _, rfl⟩
          case round =>
            clear hlk
            obtain ⟨j, hj, rfl⟩ := hrel
            by_cases hlt : j < n
            · have hcx := HL.out j (by omega)
              have hs := HF.out _ (List.getElem_mem (show j < F.length by omega))
              have hlk := look HO.out HY.out F[j] hs
              obtain ⟨c, hc⟩ := tab_has (keysOf F) C n j hlt
              rw [keysOf_at F j (by omega)] at hc
              obtain ⟨x1, x2⟩ := HX.out _ _ hc
              rw [hc] at hlk
              simp only [Option.getD_some] at hlk
              rw [← ByteArray.toList_eq, ← ByteArray.toList_eq] at x2
              obtain ⟨s, hse⟩ : ∃ s, s = F[j] := ⟨_, rfl⟩
              rw [← hse] at hcx hlk x2
              have j0 : (0 : Int) ≤ (j : Int) := Int.natCast_nonneg _
              have j1 : (j : Int) < (F.length : Int) := by omega
              have t1 : decide (k < c) = false := decide_eq_false (by omega)
              clear hs hc hse
              by_cases t2 : c = k
              · have t2b : (c == k) = true := by simp [t2]
                have t3 : Op.bytesLess s.toList r.toList = false := by
                  cases h : Op.bytesLess s.toList r.toList
                  · rfl
                  · exact absurd ⟨t2, h⟩ x2
                clear t2 x2
                go_wp2
                go_round
                case rel => exact ⟨j + 1, by omega, by go_num⟩
                case measure => simp [intOf]; omega
              · have t2b : (c == k) = false := by simp [t2]
                clear x2
                go_wp2
                go_round
                case rel => exact ⟨j + 1, by omega, by go_num⟩
                case measure => simp [intOf]; omega
            · go_wp2
              go_ret
              exact ⟨rfl, E4.out⟩

end Go.Proofs.Qxb6600870aMods
