import Derived.Test.Qxb6600729aModsPay
import Derived.Test.Qxb6600729aModsBox
namespace Go.Proofs.Qxb6600729aMods
open Go.RowKit

/-- 'Lies', in a block below B. -/
def LiesB {α : Type} (B : Nat) (w : World) (a : Option Addr) (xs : List α) (f : α → Value) : Prop :=
  0 < xs.length → ∃ g, g < B ∧ a = some ⟨g, 0, none⟩ ∧ ∀ i (h : i < xs.length), w.cell? ⟨g, i, none⟩ = some (f xs[i])

theorem LiesB.lies {α : Type} {B : Nat} {w : World} {a : Option Addr} {xs : List α} {f : α → Value} (h : LiesB B w a xs f) : Lies w a xs f := fun hp => by
  obtain ⟨g, _, h1, h2⟩ := h hp
  exact ⟨g, h1, h2⟩

theorem LiesB.below {α : Type} {B : Nat} {w w' : World} {a : Option Addr} {xs : List α} {f : α → Value} (h : LiesB B w a xs f) (hb : Below B w w') : LiesB B w' a xs f := fun hp => by
  obtain ⟨g, h0, h1, h2⟩ := h hp
  exact ⟨g, h0, h1, fun i hi => (hb.cell (p := ⟨g, i, none⟩) h0).trans (h2 i hi)⟩

/-- What the script draws from: the lists, and where their slices begin. -/
structure Env where
  F : List ByteArray
  P : List Int
  C : List Int
  R : List Int
  Q : List Int
  T : List Int
  fa : Option Addr
  pa : Option Addr
  ca : Option Addr
  ra : Option Addr
  qa : Option Addr
  ta : Option Addr

/-- The k-th delivery. -/
def Env.dv (E : Env) (k : Nat) : Dv := ⟨pickS E.F k, (payT E.pa E.P.length E.C k).1, (payT E.pa E.P.length E.C k).2.1, (payT E.pa E.P.length E.C k).2.2, pickI E.R k, pickI E.Q k, pickI E.T k⟩

/-- THE DRAW IN MEMORY, below block B. -/
structure Draw (B : Nat) (w : World) (D : Nat) (E : Env) : Prop where
  hD : D < B
  blk : w.heap[D]? = some (.cells #[.slice E.fa E.F.length E.F.length, .slice E.pa E.P.length E.P.length, .slice E.ca E.C.length E.C.length, .slice E.ra E.R.length E.R.length, .slice E.qa E.Q.length E.Q.length, .slice E.ta E.T.length E.T.length] 34 (0, 0))
  f : LiesB B w E.fa E.F Value.string
  p : LiesB B w E.pa E.P (Value.int .u8)
  c : LiesB B w E.ca E.C (Value.int .i64)
  r : LiesB B w E.ra E.R (Value.int .i64)
  q : LiesB B w E.qa E.Q (Value.int .u64)
  t : LiesB B w E.ta E.T (Value.int .i64)

theorem Draw.below {B D : Nat} {w w' : World} {E : Env} (h : Draw B w D E) (hb : Below B w w') : Draw B w' D E :=
  ⟨h.hD, (hb.block D h.hD).trans h.blk, h.f.below hb, h.p.below hb, h.c.below hb, h.r.below hb, h.q.below hb, h.t.below hb⟩

theorem Draw.drewN {B D : Nat} {w : World} {E : Env} (h : Draw B w D E) (n : Nat) : Draw B (w.drewN n) D E := h.below (below_drewN (Below.refl _ _) n)

/-- The lengths are within the law's bounds. -/
structure Env.Small (E : Env) : Prop where
  f : E.F.length ≤ 1048576
  p : E.P.length ≤ 1048576
  c : E.C.length ≤ 1048576
  r : E.R.length ≤ 1048576
  q : E.Q.length ≤ 1048576
  t : E.T.length ≤ 1048576

section
variable {B D : Nat} {E : Env} (hs : E.Small) (k : Nat) (hk : k ≤ 1048576)

theorem getF {w : World} (h : Draw B w D E) (hs : E.Small) (k : Nat) : Calls Trym.prog 22 #[.pointer (some ⟨D, 0, none⟩), .int .i64 k] w fun e w' => e = .returned (.string (E.dv k).s) ∧ ∃ q, w' = w.drewN q :=
  from22 D E.fa E.F E.F.length k w (cell_of_row w D 0 _ _ _ h.blk) h.f.lies hs.f
theorem getR {w : World} (h : Draw B w D E) (hs : E.Small) (k : Nat) : Calls Trym.prog 24 #[.pointer (some ⟨D, 0, none⟩), .int .i64 k] w fun e w' => e = .returned (.int .i64 (E.dv k).r) ∧ ∃ q, w' = w.drewN q :=
  rank24 D E.ra E.R E.R.length k w (cell_of_row w D 3 _ _ _ h.blk) h.r.lies hs.r
theorem getQ {w : World} (h : Draw B w D E) (hs : E.Small) (k : Nat) (hk : k ≤ 1048576) : Calls Trym.prog 25 #[.pointer (some ⟨D, 0, none⟩), .int .i64 k] w fun e w' => e = .returned (.int .u64 (E.dv k).q) ∧ ∃ q, w' = w.drewN q :=
  seq25 D E.qa E.Q E.Q.length k w (cell_of_row w D 4 _ _ _ h.blk) h.q.lies hs.q hk
theorem getT {w : World} (h : Draw B w D E) (hs : E.Small) (k : Nat) : Calls Trym.prog 26 #[.pointer (some ⟨D, 0, none⟩), .int .i64 k] w fun e w' => e = .returned (.int .i64 (E.dv k).t) ∧ ∃ q, w' = w.drewN q :=
  weight26 D E.ta E.T E.T.length k w (cell_of_row w D 5 _ _ _ h.blk) h.t.lies hs.t
theorem getP {w : World} (h : Draw B w D E) (hs : E.Small) (k : Nat) (hk : k ≤ 1048576) : Calls Trym.prog 23 #[.pointer (some ⟨D, 0, none⟩), .int .i64 k] w fun e w' => e = .returned (.slice (E.dv k).pa (E.dv k).pn (E.dv k).pc) ∧ ∃ q, w' = w.drewN q :=
  payload23 D E.pa E.ca E.P.length E.C E.C.length k w (cell_of_row w D 1 _ _ _ h.blk) (fun hp => by obtain ⟨g, _, e, _⟩ := h.p hp; exact ⟨g, e⟩) (cell_of_row w D 2 _ _ _ h.blk) h.c.lies hs.c hs.p hk
end

/-- zzInboxPushK. -/
theorem pushK13 (B D : Nat) (E : Env) (L : List Dv) (h k : Nat) (w : World) (hd : Draw B w D E) (hs : E.Small) (hk : k ≤ 1048576) (hb : Box w B L h) (hn : L.length ≤ 1048576) (hh : h < L.length ∨ h = 0) :
    Calls Trym.prog 13 #[.pointer (some ⟨B, 0, none⟩), .pointer (some ⟨D, 0, none⟩), .int .i64 k] w fun e w' => e = .returned (.tuple #[]) ∧
      Below B w w' ∧ (Box w' B (L ++ [E.dv k]) h ∨ Box w' B (L.drop h ++ [E.dv k]) 0) := by
  have HB : Hid (Box w B L h) := hb
  have HD : Hid (Draw B w D E) := hd
  clear hb hd
  obtain ⟨d, hdv⟩ : ∃ d, d = E.dv k := ⟨_, rfl⟩
  have HV : Hid (d = E.dv k) := hdv
  rw [← hdv]
  clear hdv
  go_enter Trym.func13, Trym.ntmps13
  go_wp2_with fail
  refine (getF HD.out hs k).mono ?_
  rintro e w1 ⟨rfl, q1, rfl⟩
  rw [← HV.out]
  go_wp2_with fail
  refine (getP (HD.out.drewN q1) hs k hk).mono ?_
  rintro e w1 ⟨rfl, q2, rfl⟩
  rw [← HV.out]
  go_wp2_with fail
  refine (getR (HD.out.drewN _) hs k).mono ?_
  rintro e w1 ⟨rfl, q3, rfl⟩
  rw [← HV.out]
  go_wp2_with fail
  refine (getQ (HD.out.drewN _) hs k hk).mono ?_
  rintro e w1 ⟨rfl, q4, rfl⟩
  rw [← HV.out]
  go_wp2_with fail
  refine (getT (HD.out.drewN _) hs k).mono ?_
  rintro e w1 ⟨rfl, q5, rfl⟩
  rw [← HV.out]
  go_wp2_with fail
  refine (push21 B L h d _ (HB.out.drewN _) hn hh).mono ?_
  rintro e w2 ⟨rfl, h1, h2⟩
  go_wp2
  go_end0
  exact ⟨rfl, (below_drewN (Below.refl B w) _).trans h1, h2⟩

/-- The window's bytes. -/
theorem pay_bytes {B D : Nat} {w : World} {E : Env} (h : Draw B w D E) (k : Nat) (hp : 0 < (E.dv k).pn) :
    ∃ g o, (E.dv k).pa = some ⟨g, o, none⟩ ∧ ∀ i, i < (E.dv k).pn → ∃ z, w.cell? ⟨g, o + i, none⟩ = some (.int .u8 z) := by
  have e : E.dv k = ⟨pickS E.F k, (payT E.pa E.P.length E.C k).1, (payT E.pa E.P.length E.C k).2.1, (payT E.pa E.P.length E.C k).2.2, pickI E.R k, pickI E.Q k, pickI E.T k⟩ := rfl
  rw [e] at hp ⊢
  simp only at hp ⊢
  unfold payT at hp ⊢
  by_cases h0 : E.C.length = 0
  · rw [if_pos h0] at hp; simp at hp
  · rw [if_neg h0] at hp ⊢
    by_cases h1 : E.C.getD (k % E.C.length) 0 < 0
    · rw [if_pos h1] at hp; simp at hp
    · rw [if_neg h1] at hp ⊢
      simp only at hp ⊢
      generalize E.C.getD (k % E.C.length) 0 = c0 at *
      have hc : payC E.P.length c0 ≤ E.P.length := by unfold payC; split <;> omega
      generalize payC E.P.length c0 = c at *
      have hs : k % (E.P.length - c + 1) < E.P.length - c + 1 := Nat.mod_lt _ (by omega)
      generalize k % (E.P.length - c + 1) = s at *
      obtain ⟨g, _, hg, hcell⟩ := h.p (by omega)
      refine ⟨g, s, ?_, fun i hi => ⟨_, hcell (s + i) (by omega)⟩⟩
      rw [payA, if_neg (by omega), hg, Option.map_some, Addr.add_lit, Nat.zero_add]

set_option maxHeartbeats 2000000 in
/-- zzInboxIsDelivery, at the very delivery. -/
theorem isDelivery_core (B D : Nat) (E : Env) (k : Nat) (s : ByteArray) (pa : Option Addr) (pn pc : Nat) (r q t : Int) (w : World) (hd : Draw B w D E) (hs : E.Small) (hk : k ≤ 1048576)
    (h1 : s = (E.dv k).s) (h2 : pa = (E.dv k).pa) (h3 : pn = (E.dv k).pn) (h4 : pc = (E.dv k).pc) (h5 : r = (E.dv k).r) (h6 : q = (E.dv k).q) (h7 : t = (E.dv k).t) (hpb : pn ≤ 1048576)
    (hz : pn = 0 ∨ ∃ g o, pa = some ⟨g, o, none⟩ ∧ ∀ i, i < pn → ∃ z, w.cell? ⟨g, o + i, none⟩ = some (.int .u8 z)) :
    Calls Trym.prog 15 #[.pointer (some ⟨D, 0, none⟩), .int .i64 k, .string s, .slice pa pn pc, .int .i64 r, .int .u64 q, .int .i64 t] w fun e w' => e = .returned (.bool true) ∧ ∃ q, w' = w.drewN q := by
  have q22 : ∀ (w : World) (a : Option Addr) (n c n' c' : Nat), (binOp .eql 22 (.slice a n c) (.slice none n' c')).run Trym.prog w = .ok (.bool a.isNone) w := fun w a n c n' c' => Lib.run_eql_slice_nil w 22 5 a n c n' c' Trym.underlying22
  have HD : Hid (Draw B w D E) := hd
  have H1 : Hid (s = (E.dv k).s) := h1
  have H2 : Hid (pa = (E.dv k).pa) := h2
  have H3 : Hid (pn = (E.dv k).pn) := h3
  have H4 : Hid (pc = (E.dv k).pc) := h4
  have H5 : Hid (r = (E.dv k).r) := h5
  have H6 : Hid (q = (E.dv k).q) := h6
  have H7 : Hid (t = (E.dv k).t) := h7
  clear h1 h2 h3 h4 h5 h6 h7 hd
  rcases hz with rfl | ⟨g, o, rfl, hz⟩
  · go_enter Trym.func15, Trym.ntmps15
    go_wp2_with fail
    refine (getF HD.out hs k).mono ?_
    rintro e w1 ⟨rfl, q1, rfl⟩
    rw [← H1.out]
    go_wp2_with fail
    refine (getR (HD.out.drewN _) hs k).mono ?_
    rintro e w1 ⟨rfl, q3, rfl⟩
    rw [← H5.out]
    go_wp2_with fail
    refine (getQ (HD.out.drewN _) hs k hk).mono ?_
    rintro e w1 ⟨rfl, q4, rfl⟩
    rw [← H6.out]
    go_wp2_with fail
    refine (getT (HD.out.drewN _) hs k).mono ?_
    rintro e w1 ⟨rfl, q5, rfl⟩
    rw [← H7.out]
    go_wp2_with fail
    refine (getP (HD.out.drewN _) hs k hk).mono ?_
    rintro e w1 ⟨rfl, q6, rfl⟩
    rw [← H2.out, ← H3.out, ← H4.out]
    go_wp2_with fail
    refine wp_loop_rounds 1 ?_
    rw [rounds_succ]
    go_wp2
    go_ret
    exact ⟨rfl, _, rfl⟩
  · have HZ : Hid (∀ i, i < pn → ∃ z, w.cell? ⟨g, o + i, none⟩ = some (.int .u8 z)) := hz
    clear hz
    go_enter Trym.func15, Trym.ntmps15
    go_wp2_with fail
    refine (getF HD.out hs k).mono ?_
    rintro e w1 ⟨rfl, q1, rfl⟩
    rw [← H1.out]
    go_wp2_with fail
    refine (getR (HD.out.drewN _) hs k).mono ?_
    rintro e w1 ⟨rfl, q3, rfl⟩
    rw [← H5.out]
    go_wp2_with fail
    refine (getQ (HD.out.drewN _) hs k hk).mono ?_
    rintro e w1 ⟨rfl, q4, rfl⟩
    rw [← H6.out]
    go_wp2_with fail
    refine (getT (HD.out.drewN _) hs k).mono ?_
    rintro e w1 ⟨rfl, q5, rfl⟩
    rw [← H7.out]
    go_wp2_with fail
    refine (getP (HD.out.drewN _) hs k hk).mono ?_
    rintro e w1 ⟨rfl, q6, rfl⟩
    rw [← H2.out, ← H3.out, ← H4.out]
    go_wp2_with fail
    go_loopw [16] (fun i wr => ∃ j n : Nat, j ≤ pn ∧ i = .int .i64 j ∧ wr = w.drewN n) (fun i _ => pn - (intOf i).toNat)
    case atStart => exact ⟨0, _, Nat.zero_le _, rfl, rfl⟩
    case round =>
      obtain ⟨j, n, hj, rfl, rfl⟩ := hrel
      by_cases hlt : j < pn
      · obtain ⟨z, hcz⟩ := HZ.out j hlt
        have j0 : (0 : Int) ≤ (j : Int) := Int.natCast_nonneg _
        have j1 : (j : Int) < (pn : Int) := by omega
        go_wp2
        go_quiet (fail)
        go_wp2
        go_roundw
        case rel => exact ⟨j + 1, _, by omega, by go_num, rfl⟩
        case measure => simp [intOf]; omega
      · go_wp2
        go_ret
        exact ⟨rfl, _, rfl⟩

theorem isDelivery15 (B D : Nat) (E : Env) (k : Nat) (d : Dv) (w : World) (hd : Draw B w D E) (hs : E.Small) (hk : k ≤ 1048576) (hv : d = E.dv k) :
    Calls Trym.prog 15 #[.pointer (some ⟨D, 0, none⟩), .int .i64 k, .string d.s, .slice d.pa d.pn d.pc, .int .i64 d.r, .int .u64 d.q, .int .i64 d.t] w fun e w' => e = .returned (.bool true) ∧ ∃ q, w' = w.drewN q := by
  have hpb : (E.dv k).pn ≤ 1048576 := by
    show (payT E.pa E.P.length E.C k).2.1 ≤ _
    unfold payT
    have := hs.p
    split
    · simp
    · split
      · simp
      · show payC _ _ ≤ _
        unfold payC; split <;> omega
  subst hv
  refine isDelivery_core B D E k _ _ _ _ _ _ _ w hd hs hk rfl rfl rfl rfl rfl rfl rfl hpb ?_
  by_cases h0 : (E.dv k).pn = 0
  · exact .inl h0
  · exact .inr (pay_bytes hd k (by omega))
