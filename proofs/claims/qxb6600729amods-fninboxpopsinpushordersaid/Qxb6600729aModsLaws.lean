import Derived.Laws.CopyOwn
import Derived.Deep.RegionLaw
import Derived.OwnWalk
import Derived.Deep.AppendLies
namespace Go.Proofs.Qxb6600729aMods
open Go.RowKit
variable {P : Program}

/-- 'copy(dst, src)', the elements of whatever size, dst in a row that is known whole. -/
theorem run_copy_sz (w : World) (dT sT ty elem : TypeId) (size g o dLen dCap : Nat) (a : Addr) (sLen sCap : Nat) (cur : Array Value) (t : TypeId) (cs : List Value) (n : Nat)
    (hu : P.underlying dT = some (.slice elem)) (hs : (P.info? elem).map (·.size) = some size)
    (hg : w.heap[g]? = some (.cells cur t (0, 0))) (hn : n = Nat.min sLen dLen) (hl : cs.length = n * size)
    (hsrc : ∀ j v, cs[j]? = some v → w.cell? (a.add j) = some v) (hfit : o + cs.length ≤ cur.size) (h1 : ∀ v ∈ cs, v.oneCell' = true) :
    (Builtin.copy_ #[dT, sT] ty #[.slice (some ⟨g, o, none⟩) dLen dCap, .slice (some a) sLen sCap]).run P w =
      .ok (goInt n) (w.setRow g (splice cur.toList o cs).toArray) := by
  have hld := run_loadCells_list (P := P) w a cs hsrc
  rw [hl] at hld
  have hst := run_storeCells_at P g o t cs 0 cur w hg (by simpa using hfit) h1
  cases hq : P.info? elem with
  | none => simp [hq] at hs
  | some i =>
    have hi : i.size = size := by simpa [hq] using hs
    subst hn
    simp only [Nat.add_zero] at hst
    simp [Builtin.copy_, run_underlying hu, Builtin.lenOf, Builtin.firstCells, sizeOf, typeInfo, hq, hi, hld, hst, splice]

/-- 'clear(s)', s a part of a row that is known whole, not empty. -/
theorem run_clear_row (w : World) (T ty elem : TypeId) (g o m c : Nat) (cur : Array Value) (t : TypeId) (i : TypeInfo) (z : Value) (zs : List Value)
    (hu : P.underlying T = some (.slice elem)) (hi : P.info? elem = some i) (hz : i.zero = some z) (hm : 0 < m) (hzs : (Builtin.zeroCells z.cells m).toList = zs)
    (hg : w.heap[g]? = some (.cells cur t (0, 0))) (hfit : o + zs.length ≤ cur.size) (h1 : ∀ v ∈ zs, v.oneCell' = true) :
    (Builtin.clear_ #[T] ty #[.slice (some ⟨g, o, none⟩) m c]).run P w = .ok (.tuple #[]) (w.setRow g (splice cur.toList o zs).toArray) := by
  have hst := run_storeCells_at P g o t zs 0 cur w hg (by simpa using hfit) h1
  simp only [Nat.add_zero] at hst
  obtain ⟨k, rfl⟩ : ∃ k, m = k + 1 := ⟨m - 1, by omega⟩
  simp [Builtin.clear_, run_underlying hu, zeroValue, typeInfo, hi, hz, hzs, hst, splice]

/-- The copy as one step of a region that draws its order. -/
theorem step_copy_sz {ops : Array Oper} {o : Oper} {a : Act} {w : World} {K : Act → World → Prop} {Q : Exit → Act → World → Prop} {E : Prop} (hgd : o.guard = none) (d s : Operand) (dT sT : TypeId)
    (ho : o.op = .call { callee := .builtin .copy, args := #[d, s], argTypes := #[dT, sT] }) (elem : TypeId) (size : Nat) (hu : P.underlying dT = some (.slice elem)) (hsz : (P.info? elem).map (·.size) = some size)
    (g off dLen dCap : Nat) (ad : Addr) (sLen sCap : Nat) (hd : a.eval d = .slice (some ⟨g, off, none⟩) dLen dCap) (hs : a.eval s = .slice (some ad) sLen sCap)
    (cur : Array Value) (t : TypeId) (hg : w.heap[g]? = some (.cells cur t (0, 0))) (cs : List Value) (n : Nat) (hn : n = Nat.min sLen dLen) (hl : cs.length = n * size)
    (hsrc : ∀ j v, cs[j]? = some v → w.cell? (ad.add j) = some v) (hfit : off + cs.length ≤ cur.size) (h1 : ∀ v ∈ cs, v.oneCell' = true)
    (h : ∀ w', Hid (w' = w.setRow g (splice cur.toList off cs).toArray) → K (a.put o.dst (goInt n)) w') :
    if Region.wanted o (yielded ops a.tmps) = true then Oper.wp P o a w K Q else E := by
  have hw : Region.wanted o (yielded ops a.tmps) = true := by simp [Region.wanted, hgd]
  rw [if_pos hw]
  have hrun := run_copy_sz (P := P) w dT sT o.type elem size g off dLen dCap ad sLen sCap cur t cs n hu hsz hg hn hl hsrc hfit h1
  unfold Oper.wp
  simp [execOp, ho, resolve, invoke, builtin, hd, hs, hrun, Result.andThen]
  exact h _ rfl

/-- The clear at a plain region's list. -/
theorem wpList_clear_row {w : World} {ops : Array Oper} {rest : List Oper} {o : Oper} {a : Act} {Q : Exit → Act → World → Prop} (hgd : o.guard = none) (s : Operand) (T : TypeId)
    (ho : o.op = .call { callee := .builtin .clear, args := #[s], argTypes := #[T] }) (elem : TypeId)
    (g off m c : Nat) (hs : a.eval s = .slice (some ⟨g, off, none⟩) m c) (cur : Array Value) (t : TypeId) (i : TypeInfo) (z : Value) (zs : List Value)
    (hu : P.underlying T = some (.slice elem)) (hi : P.info? elem = some i) (hz : i.zero = some z) (hm : 0 < m) (hzs : (Builtin.zeroCells z.cells m).toList = zs)
    (hg : w.heap[g]? = some (.cells cur t (0, 0))) (hfit : off + zs.length ≤ cur.size) (h1 : ∀ v ∈ zs, v.oneCell' = true)
    (h : ∀ w', Hid (w' = w.setRow g (splice cur.toList off zs).toArray) → wpList P ops Q rest (a.put o.dst (.tuple #[])) w') : wpList P ops Q (o :: rest) a w := by
  refine wpList_plain hgd fun K hK => ?_
  have hrun := run_clear_row (P := P) w T o.type elem g off m c cur t i z zs hu hi hz hm hzs hg hfit h1
  unfold Oper.wp
  simp [execOp, ho, resolve, invoke, builtin, hs, hrun, Result.andThen]
  exact hK _ _ (h _ rfl)
