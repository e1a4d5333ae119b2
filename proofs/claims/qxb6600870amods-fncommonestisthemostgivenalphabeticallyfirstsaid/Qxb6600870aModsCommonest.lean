import Derived.Test.Qxb6600870aModsRows
import Derived.Test.Qxb6600870aModsPlain
import Derived.WalkKit
import Derived.WalkLawsBesides
import Derived.WalkSpells
import Derived.Maps.OwnSet
import Derived.Maps.OwnOps
import Derived.Maps.RangeWalk
import Derived.Deep.QuietTactic
import Derived.BigQuiet
namespace Go.Proofs.Qxb6600870aMods
open Go.RowKit Go.Maps

theorem law : Keyed Trym.prog 9 := string_keyed Trym.underlying9
theorem zero3 (w : World) : (zeroValue 3).run Trym.prog w = .ok (.int .i64 0) w := by kernel_rfl

theorem key_str {key : Value} {kl : Lit} (h : keyOf Trym.prog 9 key = some kl) : ∃ s : ByteArray, key = .string s ∧ kl = .string s.data.toList ∧ s.size ≤ maxLen := by
  cases key <;> simp [keyOf, Trym.underlying9, mapKey] at h
  obtain ⟨h1, rfl⟩ := h
  exact ⟨_, rfl, rfl, h1⟩

/-- The map at block b, in M's words. -/
def MapAt (w : World) (b n : Nat) (M : Tab) : Prop := ∃ D : DataW Unit, w.ownsMap Trym.prog 9 (plainElem Trym.prog 3) b n D ∧ Says D M

theorem look {w : World} {b n : Nat} {D : DataW Unit} {M : Tab} (h : w.ownsMap Trym.prog 9 (plainElem Trym.prog 3) b n D) (hs : Says D M) (s : ByteArray) (hl : s.size ≤ maxLen) :
    (Instr.lookup 29 (.map (some b)) (.string s) false).run Trym.prog w = .ok (.int .i64 ((M s.data.toList).getD 0)) w := by
  obtain ⟨c, hrun, hat, _⟩ := h.lookup_int law Trym.underlying29 Trym.underlying3 (zero3 w) (Go.WideMaps.keyOf_string_mk Trym.underlying9 hl)
  rw [hrun]
  cases hm : M s.data.toList with
  | none => rw [hs.at_none _ hm] at hat; cases hat; rfl
  | some d => rw [hs.at_some _ _ hm] at hat; cases hat; rfl

theorem look_ok {w : World} {b n : Nat} {D : DataW Unit} {M : Tab} (h : w.ownsMap Trym.prog 9 (plainElem Trym.prog 3) b n D) (hs : Says D M) (s : ByteArray) (hl : s.size ≤ maxLen) :
    (Instr.lookup 29 (.map (some b)) (.string s) true).run Trym.prog w = .ok (.tuple #[.int .i64 ((M s.data.toList).getD 0), .bool (M s.data.toList).isSome]) w := by
  obtain ⟨v, ps, hrun, hv⟩ := h.look_ok law Trym.underlying29 (zero3 w) (plainElem_int Trym.underlying3 (by decide)) (Go.WideMaps.keyOf_string_mk Trym.underlying9 hl)
  obtain ⟨c, rfl, hc, _⟩ := plainElem_int_inv Trym.underlying3 hv
  simp only [Prod.mk.injEq] at hc
  rw [hrun, hs.has]
  have hat := hc.1
  cases hm : M s.data.toList with
  | none => rw [hs.at_none _ hm] at hat; cases hat; rfl
  | some d => rw [hs.at_some _ _ hm] at hat; cases hat; rfl

set_option maxHeartbeats 1000000 in
theorem commonest17 (b n : Nat) (D : DataW Unit) (M : Tab) (w : World) (h : w.ownsMap Trym.prog 9 (plainElem Trym.prog 3) b n D) (hs : Says D M) (h0 : M [] = none) :
    Calls Trym.prog 17 #[.map (some b)] w fun e w' => ∃ r : ByteArray, e = .returned (.string r) ∧ r.size ≤ maxLen ∧ Best M r.data.toList ∧ Below w.heap.size w w' := by
  have HS : Hid (Says D M) := hs
  have HO : Hid (w.ownsMap Trym.prog 9 (plainElem Trym.prog 3) b n D) := h
  have H0 : Hid (M [] = none) := h0
  have lb := h.lt
  clear hs h h0
  go_enter Trym.func17, Trym.ntmps17
  go_wp2_with (first | (at_range; refine wpList_range_own _ rfl _ 29 rfl 9 3 law Trym.underlying29 _ b n D rfl HO.out ?_; intro w0 hrg0 hg0 hs0) | go_in)
  go_frame
  go_loopw [3] (fun t wr => ∃ best left cnt, t = .string best ∧ best.size ≤ maxLen ∧ wr.ranges Trym.prog 9 (plainElem Trym.prog 3) b w.heap.size n D left cnt ∧ Part M left best.data.toList ∧ Below w.heap.size w wr)
    (fun _ wr => wr.rangeLeft b w.heap.size)
  case atStart => exact ⟨_, _, _, rfl, by decide, hrg0, Part.start HS.out, (Below.refl _ _).grown hg0 (Nat.le_refl _) (by intro k e; cases e)⟩
  case round =>
    obtain ⟨best, left, cnt, rfl, hbz, hrg, hpt, hbel⟩ := hrel
    have HP : Hid (Part M left best.data.toList) := hpt
    have HB : Hid (Below w.heap.size w wr) := hbel
    have HR : Hid (wr.ranges Trym.prog 9 (plainElem Trym.prog 3) b w.heap.size n D left cnt) := hrg
    clear hpt hbel hrg hrg0 hg0 hs0
    go_wp2_with (first | (at_next; refine wpList_next_ranges _ rfl _ rfl 9 law (plainElem Trym.prog 3) Value.string (Value.int .i64) (fun key kl hk => by obtain ⟨s, hs, _⟩ := key_str hk; exact ⟨s, hs⟩) (fun v y hv => by obtain ⟨c, rfl, _⟩ := plainElem_int_inv Trym.underlying3 hv; exact ⟨c, rfl⟩) b w.heap.size n D left cnt rfl HR.out ?_ ?_) | go_in)
    · intro _ hl0
      have HF : Hid (Best M best.data.toList) := HP.out.done hl0
      clear hl0
      go_wp2
      go_ret
      exact ⟨best, rfl, hbz, HF.out, HB.out⟩
    · intro x c kl yd yp w2 cnt2 hkey hlk hv hat hrg2 hlt hg2 hs2 hen
      obtain ⟨x', ex, rfl, hxz⟩ := key_str hkey
      cases ex
      obtain ⟨c', ec, hy, hwc⟩ := plainElem_int_inv Trym.underlying3 hv
      cases ec
      cases hy
      have hMx : M x.data.toList = some c := by
        cases hm : M x.data.toList with
        | none => have := hat (.lit (.bool true)); rw [HS.out.at_none _ hm] at this; cases this
        | some d => have := hat (.lit (.bool true)); rw [HS.out.at_some _ _ hm] at this; cases this; rfl
      have HX : Hid (M x.data.toList = some c) := hMx
      have HB2 : Hid (Below w.heap.size w w2) := HB.out.grown hg2 HB.out.size (by intro k e; cases e; exact Nat.le_refl _)
      have HR2 : Hid (w2.ranges Trym.prog 9 (plainElem Trym.prog 3) b w.heap.size n D (fun z => left z && !z.sameKey (.string x.data.toList)) cnt2) := hrg2
      have hlk2 := look hrg2.owns HS.out best hbz
      have hlt2 : cnt2 < cnt := hlt
      clear hkey hlk hv hat hrg2 hg2 hs2 hMx hlt
      by_cases he : best.data.toList = []
      · have heb : best.toList.isEmpty = true := by rw [ByteArray.toList_eq, he]; rfl
        have HQ : Hid (Part M (fun z => left z && !z.sameKey (.string x.data.toList)) x.data.toList) := HP.out.take HX.out (.inl ⟨he, H0.out⟩)
        clear he hlk2
        go_wp2_with fail
        go_roundw
        case rel => exact ⟨x, _, _, rfl, hxz, HR2.out, HQ.out, HB2.out⟩
        case measure => rw [HR2.out.left_eq, HR.out.left_eq]; omega
      · have heb : best.toList.isEmpty = false := by
          rw [ByteArray.toList_eq]
          cases hb : best.data.toList with
          | nil => exact absurd hb he
          | cons _ _ => rfl
        obtain ⟨k, hk⟩ := HP.out.some_of he
        have HK : Hid (M best.data.toList = some k) := hk
        rw [hk] at hlk2
        simp only [Option.getD_some] at hlk2
        clear he hk
        by_cases t1 : k < c
        · have HQ : Hid (Part M (fun z => left z && !z.sameKey (.string x.data.toList)) x.data.toList) := HP.out.take HX.out (.inr ⟨k, HK.out, .inl t1⟩)
          have t1b : decide (k < c) = true := decide_eq_true t1
          go_wp2_with fail
          go_roundw
          case rel => exact ⟨x, _, _, rfl, hxz, HR2.out, HQ.out, HB2.out⟩
          case measure => rw [HR2.out.left_eq, HR.out.left_eq]; omega
        · have t1b : decide (k < c) = false := decide_eq_false t1
          by_cases t2 : c = k
          · have t2b : (c == k) = true := by simp [t2]
            cases t3 : Op.bytesLess x.toList best.toList
            · have HQ : Hid (Part M (fun z => left z && !z.sameKey (.string x.data.toList)) best.data.toList) := HP.out.keep HX.out HK.out H0.out ⟨t1, fun e => by rw [← ByteArray.toList_eq, ← ByteArray.toList_eq, t3] at e; cases e.2⟩
              clear t2
              go_wp2_with fail
              go_roundw
              case rel => exact ⟨best, _, _, rfl, hbz, HR2.out, HQ.out, HB2.out⟩
              case measure => rw [HR2.out.left_eq, HR.out.left_eq]; omega
            · have HQ : Hid (Part M (fun z => left z && !z.sameKey (.string x.data.toList)) x.data.toList) := HP.out.take HX.out (.inr ⟨k, HK.out, .inr ⟨t2, by rw [← ByteArray.toList_eq, ← ByteArray.toList_eq]; exact t3⟩⟩)
              clear t2
              go_wp2_with fail
              go_roundw
              case rel => exact ⟨x, _, _, rfl, hxz, HR2.out, HQ.out, HB2.out⟩
              case measure => rw [HR2.out.left_eq, HR.out.left_eq]; omega
          · have t2b : (c == k) = false := by simp [t2]
            have HQ : Hid (Part M (fun z => left z && !z.sameKey (.string x.data.toList)) best.data.toList) := HP.out.keep HX.out HK.out H0.out ⟨t1, fun e => t2 e.1⟩
            go_wp2_with fail
            go_roundw
            case rel => exact ⟨best, _, _, rfl, hbz, HR2.out, HQ.out, HB2.out⟩
            case measure => rw [HR2.out.left_eq, HR.out.left_eq]; omega
