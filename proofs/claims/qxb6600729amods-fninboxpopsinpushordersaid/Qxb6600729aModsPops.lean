import Derived.Test.Qxb6600729aModsInv
namespace Go.Proofs.Qxb6600729aMods
open Go.RowKit

theorem LiesB.mono {α : Type} {B B' : Nat} {w : World} {a : Option Addr} {xs : List α} {f : α → Value} (h : LiesB B w a xs f) (hB : B ≤ B') : LiesB B' w a xs f := fun hp => by
  obtain ⟨g, h0, h1, h2⟩ := h hp
  exact ⟨g, by omega, h1, h2⟩

theorem LiesB.up {α : Type} {w w' : World} {a : Option Addr} {xs : List α} {f : α → Value} (h : LiesB w.heap.size w a xs f) (hb : Below w.heap.size w w') : LiesB w'.heap.size w' a xs f :=
  (h.below hb).mono hb.size

theorem Src.cases {w : World} {a : Option Addr} {xs : List ByteArray} (h : Src w a xs Value.string) : xs.length = 0 ∨ ∃ b off, a = some ⟨b, off, none⟩ ∧ ∀ i (h : i < xs.length), w.cell? ⟨b, off + i, none⟩ = some (.string xs[i]) := by
  by_cases h0 : xs.length = 0
  · exact .inl h0
  · exact .inr (h (by omega))

/-- An argument: a slice whose elements are the list's. -/
structure Arg {α : Type} (w : World) (a : Option Addr) (xs : List α) (cap : Nat) (f : α → Value) : Prop where
  nil : a = none → xs.length = 0 ∧ cap = 0
  src : Src w a xs f

theorem Arg.below {α : Type} {w w' : World} {a : Option Addr} {xs : List α} {cap : Nat} {f : α → Value} (h : Arg w a xs cap f) (hb : Below w.heap.size w w') : Arg w' a xs cap f := ⟨h.nil, h.src.below hb⟩

theorem below_up {w w1 w2 : World} (h : Below w.heap.size w w1) (k : Below w1.heap.size w1 w2) : Below w.heap.size w w2 := h.trans (k.mono h.size)

/-- The draw and the new inbox. -/
theorem start_draw (w : World) (E : Env) (c0 : LiesB w.heap.size w E.fa E.F Value.string) (c1 : LiesB w.heap.size w E.pa E.P (Value.int .u8)) (c2 : LiesB w.heap.size w E.ca E.C (Value.int .i64)) (c3 : LiesB w.heap.size w E.ra E.R (Value.int .i64))
    (c4 : LiesB w.heap.size w E.qa E.Q (Value.int .u64)) (c5 : LiesB w.heap.size w E.ta E.T (Value.int .i64)) (o : Obj)
    (w1 : World) (hw1 : w1 = (w.alloc (.cells #[.slice E.fa E.F.length E.F.length, .slice E.pa E.P.length E.P.length, .slice E.ca E.C.length E.C.length, .slice E.ra E.R.length E.R.length, .slice E.qa E.Q.length E.Q.length, .slice E.ta E.T.length E.T.length] 34)).alloc o) :
    Draw (w.heap.size + 1) w1 w.heap.size E := by
  have hb : Below w.heap.size w w1 := by rw [hw1]; exact ((Below.refl _ _).alloc (Nat.le_refl _) _).alloc (by simp) _
  refine ⟨by omega, ?_, (c0.below hb).mono (by omega), (c1.below hb).mono (by omega), (c2.below hb).mono (by omega), (c3.below hb).mono (by omega), (c4.below hb).mono (by omega), (c5.below hb).mono (by omega)⟩
  rw [hw1, Below.heap_alloc _ _ _ (by simp)]
  exact heap_alloc_new w _

theorem start_box (w : World) : Box (w.alloc (.cells #[.slice none 0 0, .int .i64 0] 47)) w.heap.size [] 0 :=
  ⟨none, 0, heap_alloc_new w _, World.ownsRow_nil _ _ _ _⟩

set_option maxHeartbeats 8000000 in
set_option maxRecDepth 100000 in
theorem pops3 (a0 a1 a2 a3 a4 a5 a6 : Option Addr) (c0 c1 c2 c3 c4 c5 c6 : Nat) (O : List Int) (F : List ByteArray) (P C R Q T : List Int) (w : World)
    (s0 : Arg w a0 O c0 (Value.int .u8)) (s1 : Arg w a1 F c1 Value.string) (s2 : Arg w a2 P c2 (Value.int .u8)) (s3 : Arg w a3 C c3 (Value.int .i64)) (s4 : Arg w a4 R c4 (Value.int .i64)) (s5 : Arg w a5 Q c5 (Value.int .u64)) (s6 : Arg w a6 T c6 (Value.int .i64))
    (hO : ∀ x ∈ O, 0 ≤ x) :
    Calls Trym.prog 3 #[.slice a0 O.length c0, .slice a1 F.length c1, .slice a2 P.length c2, .slice a3 C.length c3, .slice a4 R.length c4, .slice a5 Q.length c5, .slice a6 T.length c6] w fun e w' => e = .returned (.bool true) ∧ Below w.heap.size w w' := by
  have S0 : Hid (Arg w a0 O c0 (Value.int .u8)) := s0
  have S1 : Hid (Arg w a1 F c1 Value.string) := s1
  have S2 : Hid (Arg w a2 P c2 (Value.int .u8)) := s2
  have S3 : Hid (Arg w a3 C c3 (Value.int .i64)) := s3
  have S4 : Hid (Arg w a4 R c4 (Value.int .i64)) := s4
  have S5 : Hid (Arg w a5 Q c5 (Value.int .u64)) := s5
  have S6 : Hid (Arg w a6 T c6 (Value.int .i64)) := s6
  have HO : Hid (∀ x ∈ O, 0 ≤ x) := hO
  clear s0 s1 s2 s3 s4 s5 s6 hO
  go_enter Trym.func3, Trym.ntmps3
  go_wp2_with fail
  refine (bytes5_core a0 a1 a2 a3 a4 a5 a6 O.length P.length C.length R.length Q.length T.length c0 c1 c2 c3 c4 c5 c6 F w S1.out.src.cases).mono ?_
  rintro e w' ⟨b, rfl, hw, hsz⟩; obtain rfl := hw.symm; clear hw
  cases b
  · clear hsz
    go_wp2
    go_ret
    exact ⟨rfl, Below.refl _ _⟩
  · obtain ⟨z0, z1, z2, z3, z4, z5, z6⟩ := hsz rfl
    clear hsz
    have g0 : decide ((1048576 : Int) < (O.length : Int)) = false := decide_eq_false (by omega)
    have g2 : decide ((1048576 : Int) < (P.length : Int)) = false := decide_eq_false (by omega)
    by_cases kF : (65536 : Int) < (F.length : Int)
    · have gF : decide ((65536 : Int) < (F.length : Int)) = true := decide_eq_true kF
      go_wp2
      go_ret
      exact ⟨rfl, Below.refl _ _⟩
    · have gF : decide ((65536 : Int) < (F.length : Int)) = false := decide_eq_false kF
      by_cases kC : (131072 : Int) < (C.length : Int)
      · have gC : decide ((131072 : Int) < (C.length : Int)) = true := decide_eq_true kC
        go_wp2
        go_ret
        exact ⟨rfl, Below.refl _ _⟩
      · have gC : decide ((131072 : Int) < (C.length : Int)) = false := decide_eq_false kC
        by_cases kR : (131072 : Int) < (R.length : Int)
        · have gR : decide ((131072 : Int) < (R.length : Int)) = true := decide_eq_true kR
          go_wp2
          go_ret
          exact ⟨rfl, Below.refl _ _⟩
        · have gR : decide ((131072 : Int) < (R.length : Int)) = false := decide_eq_false kR
          by_cases kQ : (131072 : Int) < (Q.length : Int)
          · have gQ : decide ((131072 : Int) < (Q.length : Int)) = true := decide_eq_true kQ
            go_wp2
            go_ret
            exact ⟨rfl, Below.refl _ _⟩
          · have gQ : decide ((131072 : Int) < (Q.length : Int)) = false := decide_eq_false kQ
            by_cases kT : (131072 : Int) < (T.length : Int)
            · have gT : decide ((131072 : Int) < (T.length : Int)) = true := decide_eq_true kT
              go_wp2
              go_ret
              exact ⟨rfl, Below.refl _ _⟩
            · have gT : decide ((131072 : Int) < (T.length : Int)) = false := decide_eq_false kT
              go_wp2_with fail
              refine (bytes6_core a0 a1 a2 a3 a4 a5 a6 O.length P.length C.length R.length Q.length T.length c0 c1 c2 c3 c4 c5 c6 F w S1.out.src.cases (by omega) (by omega) (by omega) (by omega) (by omega) (by omega) (by omega)).mono ?_
              rintro e w' ⟨v, rfl, hw⟩; obtain rfl := hw.symm; clear hw
              by_cases kv : (1048576 : Int) < v
              · go_wp2
                go_ret
                exact ⟨rfl, Below.refl _ _⟩
              · clear kF gF kC gC kR gR kQ gQ kT gT g0 g2
                go_wp2_with fail
                refine (cloneB a0 O c0 w S0.out.nil S0.out.src z0).mono ?_
                rintro e w1 ⟨b0, rfl, l0, e1⟩
                have L0 : Hid (LiesB w1.heap.size w1 b0 O (Value.int .u8)) := l0
                have E1 : Hid (Below w.heap.size w w1) := e1
                clear l0 e1
                go_wp2_with fail
                refine (cloneS a1 F c1 w1 S1.out.nil (S1.out.below E1.out).src z1).mono ?_
                rintro e w2 ⟨b1, rfl, l1, e2⟩
                have L1 : Hid (LiesB w2.heap.size w2 b1 F Value.string) := l1
                replace L0 : Hid (LiesB w2.heap.size w2 b0 O (Value.int .u8)) := L0.out.up e2
                have E2 : Hid (Below w.heap.size w w2) := below_up E1.out e2
                clear l1 e2 E1
                go_wp2_with fail
                refine (cloneB a2 P c2 w2 S2.out.nil (S2.out.below E2.out).src z2).mono ?_
                rintro e w3 ⟨b2, rfl, l2, e3⟩
                have L2 : Hid (LiesB w3.heap.size w3 b2 P (Value.int .u8)) := l2
                replace L0 : Hid (LiesB w3.heap.size w3 b0 O (Value.int .u8)) := L0.out.up e3
                replace L1 : Hid (LiesB w3.heap.size w3 b1 F Value.string) := L1.out.up e3
                have E3 : Hid (Below w.heap.size w w3) := below_up E2.out e3
                clear l2 e3 E2
                go_wp2_with fail
                refine (cloneI a3 C c3 w3 S3.out.nil (S3.out.below E3.out).src z3).mono ?_
                rintro e w4 ⟨b3, rfl, l3, e4⟩
                have L3 : Hid (LiesB w4.heap.size w4 b3 C (Value.int .i64)) := l3
                replace L0 : Hid (LiesB w4.heap.size w4 b0 O (Value.int .u8)) := L0.out.up e4
                replace L1 : Hid (LiesB w4.heap.size w4 b1 F Value.string) := L1.out.up e4
                replace L2 : Hid (LiesB w4.heap.size w4 b2 P (Value.int .u8)) := L2.out.up e4
                have E4 : Hid (Below w.heap.size w w4) := below_up E3.out e4
                clear l3 e4 E3
                go_wp2_with fail
                refine (cloneI a4 R c4 w4 S4.out.nil (S4.out.below E4.out).src z4).mono ?_
                rintro e w5 ⟨b4, rfl, l4, e5⟩
                have L4 : Hid (LiesB w5.heap.size w5 b4 R (Value.int .i64)) := l4
                replace L0 : Hid (LiesB w5.heap.size w5 b0 O (Value.int .u8)) := L0.out.up e5
                replace L1 : Hid (LiesB w5.heap.size w5 b1 F Value.string) := L1.out.up e5
                replace L2 : Hid (LiesB w5.heap.size w5 b2 P (Value.int .u8)) := L2.out.up e5
                replace L3 : Hid (LiesB w5.heap.size w5 b3 C (Value.int .i64)) := L3.out.up e5
                have E5 : Hid (Below w.heap.size w w5) := below_up E4.out e5
                clear l4 e5 E4
                go_wp2_with fail
                refine (cloneU a5 Q c5 w5 S5.out.nil (S5.out.below E5.out).src z5).mono ?_
                rintro e w6 ⟨b5, rfl, l5, e6⟩
                have L5 : Hid (LiesB w6.heap.size w6 b5 Q (Value.int .u64)) := l5
                replace L0 : Hid (LiesB w6.heap.size w6 b0 O (Value.int .u8)) := L0.out.up e6
                replace L1 : Hid (LiesB w6.heap.size w6 b1 F Value.string) := L1.out.up e6
                replace L2 : Hid (LiesB w6.heap.size w6 b2 P (Value.int .u8)) := L2.out.up e6
                replace L3 : Hid (LiesB w6.heap.size w6 b3 C (Value.int .i64)) := L3.out.up e6
                replace L4 : Hid (LiesB w6.heap.size w6 b4 R (Value.int .i64)) := L4.out.up e6
                have E6 : Hid (Below w.heap.size w w6) := below_up E5.out e6
                clear l5 e6 E5
                go_wp2_with fail
                refine (cloneI a6 T c6 w6 S6.out.nil (S6.out.below E6.out).src z6).mono ?_
                rintro e w7 ⟨b6, rfl, l6, e7⟩
                have L6 : Hid (LiesB w7.heap.size w7 b6 T (Value.int .i64)) := l6
                replace L0 : Hid (LiesB w7.heap.size w7 b0 O (Value.int .u8)) := L0.out.up e7
                replace L1 : Hid (LiesB w7.heap.size w7 b1 F Value.string) := L1.out.up e7
                replace L2 : Hid (LiesB w7.heap.size w7 b2 P (Value.int .u8)) := L2.out.up e7
                replace L3 : Hid (LiesB w7.heap.size w7 b3 C (Value.int .i64)) := L3.out.up e7
                replace L4 : Hid (LiesB w7.heap.size w7 b4 R (Value.int .i64)) := L4.out.up e7
                replace L5 : Hid (LiesB w7.heap.size w7 b5 Q (Value.int .u64)) := L5.out.up e7
                have E7 : Hid (Below w.heap.size w w7) := below_up E6.out e7
                clear l6 e7 E6 S0 S1 S2 S3 S4 S5 S6
                go_wp2_with fail
                refine (new11 _).mono ?_
                rintro e w8 ⟨rfl, hw8⟩
                obtain ⟨E, hE⟩ : ∃ E : Env, E = ⟨F, P, C, R, Q, T, b1, b2, b3, b4, b5, b6⟩ := ⟨_, rfl⟩
                have HS : Hid E.Small := by rw [hE]; exact ⟨z1, z2, z3, z4, z5, z6⟩
                have HD : Hid (Draw (w7.heap.size + 1) w8 w7.heap.size E) := by rw [hE]; exact start_draw w7 _ L1.out L2.out L3.out L4.out L5.out L6.out _ w8 hw8
                have HB : Hid (Box w8 (w7.heap.size + 1) [] 0) := by
                  have := start_box (w7.alloc (.cells #[.slice b1 F.length F.length, .slice b2 P.length P.length, .slice b3 C.length C.length, .slice b4 R.length R.length, .slice b5 Q.length Q.length, .slice b6 T.length T.length] 34))
                  rw [← hw8, World.size_alloc] at this
                  exact this
                have hb8 : Below w7.heap.size w7 w8 := by rw [hw8]; exact ((Below.refl _ _).alloc (Nat.le_refl _) _).alloc (by simp) _
                have HW : Hid (Below w.heap.size w w8) := below_up E7.out hb8
                have HL : Hid (LiesB (w7.heap.size + 1) w8 b0 O (Value.int .u8)) := (L0.out.below hb8).mono (by omega)
                have hle : w.heap.size ≤ w7.heap.size + 1 := by have := E7.out.size; omega
                clear hw8 hb8 L0 L1 L2 L3 L4 L5 L6 E7 hE kv
                simp only [World.size_alloc]
                generalize w7.heap.size = D at *
                go_wp2_with fail
                by_cases hO0 : O.length = 0
                · refine wp_loop_rounds 1 ?_
                  rw [rounds_succ]
                  go_wp2
                  go_ret
                  exact ⟨rfl, HW.out⟩
                · obtain ⟨g, hg, rfl, hc⟩ := HL.out (by omega)
                  have HC : Hid (∀ i (h : i < O.length), w8.cell? ⟨g, i, none⟩ = some (.int .u8 O[i])) := hc
                  clear hc HL hO0
                  go_loopw [17, 18, 19] (fun pu po i wr => ∃ n p q h : Nat, ∃ L : List Dv, n ≤ O.length ∧ i = .int .i64 n ∧ pu = .int .i64 q ∧ po = .int .i64 p ∧ q ≤ n ∧ Inv E L h p q ∧ Box wr (D + 1) L h ∧ Below (D + 1) w8 wr)
                    (fun _ _ i _ => O.length - (intOf i).toNat)
                  case atStart => exact ⟨0, 0, 0, 0, [], Nat.zero_le _, rfl, rfl, rfl, Nat.le_refl _, Inv.start E, HB.out, Below.refl _ _⟩
                  case round =>
                    obtain ⟨n, p, q, h, L, hn, rfl, rfl, rfl, hqn, hinv, hbox, hbel⟩ := hrel
                    have HI : Hid (Inv E L h p q) := hinv
                    have HX : Hid (Box wr (D + 1) L h) := hbox
                    have HE : Hid (Below (D + 1) w8 wr) := hbel
                    have hpq := hinv.le
                    clear hinv hbox hbel
                    by_cases hlt : n < O.length
                    · have hcx : wr.cell? ⟨g, n, none⟩ = some (.int .u8 O[n]) := (HE.out.cell (p := ⟨g, n, none⟩) hg).trans (HC.out n hlt)
                      have hz0 : 0 ≤ O[n] := HO.out _ (List.getElem_mem hlt)
                      obtain ⟨z, hz⟩ : ∃ z, z = O[n] := ⟨_, rfl⟩
                      rw [← hz] at hcx hz0
                      clear hz
                      go_wp2_with fail
                      refine (isPush12 z hz0 _).mono ?_
                      rintro e w' ⟨rfl, hw⟩; obtain rfl := hw.symm; clear hw
                      obtain ⟨pb, hpb⟩ : ∃ pb, pb = (z % 3 != 0) := ⟨_, rfl⟩
                      rw [← hpb]
                      clear hpb
                      by_cases hpush : pb = true
                      · subst hpush
                        go_wp2_with fail
                        refine (pushK13 (D + 1) D E L h q wr (HD.out.below HE.out) HS.out (by omega) HX.out (by have := HI.out.small; omega) HI.out.hh).mono ?_
                        rintro e w2 ⟨rfl, hb2, hor⟩
                        have hex : ∃ L' h', Inv E L' h' p (q + 1) ∧ Box w2 (D + 1) L' h' := by
                          rcases hor with hor | hor
                          · exact ⟨_, _, HI.out.push, hor⟩
                          · exact ⟨_, _, HI.out.shift, hor⟩
                        obtain ⟨L', h', hI', hX'⟩ := hex
                        have HE2 : Hid (Below (D + 1) w8 w2) := HE.out.trans hb2
                        obtain ⟨ao, cap, k0, k1⟩ := hX'.cells
                        have hl' := hI'.len
                        have hs' := hI'.small
                        have HI' : Hid (Inv E L' h' p (q + 1)) := hI'
                        have HX' : Hid (Box w2 (D + 1) L' h') := hX'
                        have m1 : h' ≤ L'.length := by omega
                        have m2 : L'.length ≤ 1048576 := by omega
                        have HK := (show Hid (Calls Trym.prog 16 _ w2 _) from zzlen16 (D + 1) ao L'.length cap h' w2 k0 k1 m2 m1)
                        rw [show L'.length - h' = q + 1 - p from by omega] at HK
                        have bne : (((q + 1 - p : Nat) : Int) != (q : Int) + 1 - (p : Int)) = false := by simp; omega
                        clear hor hb2 hI' hX' k0 k1 hl' hs' m1 m2
                        go_wp2_with fail
                        refine HK.out.mono ?_
                        rintro e w3 ⟨rfl, qq, rfl⟩
                        go_wp2_with fail
                        go_roundw
                        case rel => exact ⟨n + 1, p, q + 1, h', L', by omega, by go_num, by go_num, rfl, by omega, HI'.out, HX'.out.drewN _, below_drewN HE2.out _⟩
                        case measure => simp [intOf]; omega
                      · obtain rfl : pb = false := by simpa using hpush
                        clear hpush
                        by_cases hpq2 : p = q
                        · have bq : ((p : Int) == (q : Int)) = true := beq_iff_eq.2 (by omega)
                          have HPQ : Hid (p = q) := hpq2
                          clear hpq2
                          go_wp2_with fail
                          refine (pushK13 (D + 1) D E L h q wr (HD.out.below HE.out) HS.out (by omega) HX.out (by have := HI.out.small; omega) HI.out.hh).mono ?_
                          rintro e w2 ⟨rfl, hb2, hor⟩
                          have hex : ∃ L' h', Inv E L' h' p (q + 1) ∧ Box w2 (D + 1) L' h' := by
                            rcases hor with hor | hor
                            · exact ⟨_, _, HI.out.push, hor⟩
                            · exact ⟨_, _, HI.out.shift, hor⟩
                          obtain ⟨L', h', hI', hX'⟩ := hex
                          have HE2 : Hid (Below (D + 1) w8 w2) := HE.out.trans hb2
                          obtain ⟨ao, cap, k0, k1⟩ := hX'.cells
                          have hl' := hI'.len
                          have hs' := hI'.small
                          have HI' : Hid (Inv E L' h' p (q + 1)) := hI'
                          have HX' : Hid (Box w2 (D + 1) L' h') := hX'
                          have m1 : h' ≤ L'.length := by omega
                          have m2 : L'.length ≤ 1048576 := by omega
                          have HK := (show Hid (Calls Trym.prog 16 _ w2 _) from zzlen16 (D + 1) ao L'.length cap h' w2 k0 k1 m2 m1)
                          rw [show L'.length - h' = q + 1 - p from by omega] at HK
                          have bne : (((q + 1 - p : Nat) : Int) != (q : Int) + 1 - (p : Int)) = false := by simp; omega
                          clear hor hb2 hI' hX' k0 k1 hl' hs' m1 m2
                          go_wp2_with fail
                          refine HK.out.mono ?_
                          rintro e w3 ⟨rfl, qq, rfl⟩
                          go_wp2_with fail
                          go_roundw
                          case rel => exact ⟨n + 1, p, q + 1, h', L', by omega, by go_num, by go_num, rfl, by omega, HI'.out, HX'.out.drewN _, below_drewN HE2.out _⟩
                          case measure => simp [intOf]; omega
                        · have bq : ((p : Int) == (q : Int)) = false := beq_eq_false_iff_ne.2 (by omega)
                          have hpl : p < q := by omega
                          obtain ⟨hhl, hhd⟩ := HI.out.head hpl
                          have hs' := HI.out.small
                          have HP := (show Hid (Calls Trym.prog 14 _ wr _) from pop14 (D + 1) L h wr HX.out (by omega) hhl)
                          have HV : Hid (L[h] = E.dv p) := hhd
                          obtain ⟨d, hd⟩ : ∃ d, d = L[h] := ⟨_, rfl⟩
                          rw [← hd] at HP HV
                          clear hd hhd hs' hhl
                          go_wp2_with fail
                          refine HP.out.mono ?_
                          rintro e w2 ⟨rfl, hb2, hX2⟩
                          have hI2 := HI.out.pop hpl
                          generalize (if h + 1 = L.length then [] else L.set h Dv.zero) = L' at hI2 hX2
                          generalize (if h + 1 = L.length then 0 else h + 1) = h' at hI2 hX2
                          have HE2 : Hid (Below (D + 1) w8 w2) := HE.out.trans hb2
                          obtain ⟨ao, cap, k0, k1⟩ := hX2.cells
                          have hl' := hI2.len
                          have hs' := hI2.small
                          have HI' : Hid (Inv E L' h' (p + 1) q) := hI2
                          have HX' : Hid (Box w2 (D + 1) L' h') := hX2
                          have m1 : h' ≤ L'.length := by omega
                          have m2 : L'.length ≤ 1048576 := by omega
                          have HK := (show Hid (∀ k, Calls Trym.prog 16 _ (w2.drewN k) _) from fun k => zzlen16 (D + 1) ao L'.length cap h' (w2.drewN k) k0 k1 m2 m1)
                          rw [show L'.length - h' = q - (p + 1) from by omega] at HK
                          have bne : (((q - (p + 1) : Nat) : Int) != (q : Int) - ((p : Int) + 1)) = false := by simp; omega
                          clear hb2 hI2 hX2 k0 k1 hl' hs' m1 m2
                          go_wp2_with fail
                          refine (isDelivery15 (D + 1) D E p d w2 (HD.out.below HE2.out) HS.out (by omega) HV.out).mono ?_
                          rintro e w3 ⟨rfl, q3, rfl⟩
                          go_wp2_with fail
                          refine (HK.out q3).mono ?_
                          rintro e w4 ⟨rfl, q4, rfl⟩
                          go_wp2_with fail
                          go_roundw
                          case rel => exact ⟨n + 1, p + 1, q, h', L', by omega, by go_num, rfl, by go_num, by omega, HI'.out, HX'.out.drewN _, below_drewN HE2.out _⟩
                          case measure => simp [intOf]; omega
                    · go_wp2
                      go_ret
                      exact ⟨rfl, HW.out.trans (HE.out.mono hle)⟩
