import Derived.Test.Qxb6600870aModsRows
import Derived.Test.Qxb6600870aModsLaw
import Derived.WalkKit
import Derived.ProofKit
import Derived.OpenShut
import Derived.ShutString
import Derived.ChangeOld
import Derived.Below
import Derived.SliceStrings
namespace Go.Proofs.Qxb6600870aMods
open Go.ChangeShapes Go.WideShapes Go.ChangeAt Go.RowKit
open Go.ChangeMaps (open_string shut_string)

/-- WHAT THE WALK IS TOLD OF A SLICE OF INTEGERS THAT CAME IN: it is nil; or it leads to a row of 'cap' cells, the numbers 'zs' (the first 'len' are its elements, the rest its spare room), each fitting its kind. -/
def IsRow (k : IntKind) (w : World) (a : Option Addr) (len cap : Nat) (zs : List Int) : Prop :=
  (a = none ∧ len = 0 ∧ cap = 0 ∧ zs = []) ∨
  ∃ x, a = some x ∧ len ≤ cap ∧ cap ≤ maxLen ∧ zs.length = cap ∧ (∀ i, i < zs.length → w.cell? (x.add i) = some (.int k (zs.getD i 0))) ∧ ∀ n ∈ zs, (Lit.int k n).wf = true

/-- The same of a slice of strings. -/
def IsStrs (w : World) (a : Option Addr) (len cap : Nat) (ss : List ByteArray) : Prop :=
  (a = none ∧ len = 0 ∧ cap = 0 ∧ ss = []) ∨
  ∃ x, a = some x ∧ len ≤ cap ∧ cap ≤ maxLen ∧ ss.length = cap ∧ (∀ i, i < ss.length → w.cell? (x.add i) = some (.string (ss.getD i ByteArray.empty))) ∧ ∀ s ∈ ss, s.size ≤ maxLen

theorem IsRow.arg {k : IntKind} {w : World} {a : Option Addr} {len cap : Nat} {zs : List Int} (h : IsRow k w a len cap zs) : Arg w a (zs.take len) cap (Value.int k) ∧ (zs.take len).length = len := by
  rcases h with ⟨rfl, rfl, rfl, rfl⟩ | ⟨x, rfl, hl, _, hz, hcell, _⟩
  · exact ⟨⟨fun _ => ⟨rfl, rfl⟩, fun hp => by simp at hp⟩, rfl⟩
  · have hlen : (zs.take len).length = len := by rw [List.length_take]; omega
    refine ⟨⟨(fun e => by cases e), fun hp => ?_⟩, hlen⟩
    obtain ⟨b, off, rfl, hc⟩ := ints_at hcell (by omega)
    refine ⟨b, off, rfl, fun i hi => ?_⟩
    rw [hlen] at hi
    rw [hc i (by omega)]
    simp [List.getD, show i < zs.length by omega]

theorem IsRow.bounds {w : World} {a : Option Addr} {len cap : Nat} {zs : List Int} (h : IsRow .i64 w a len cap zs) : ∀ x ∈ zs.take len, -9223372036854775808 ≤ x ∧ x ≤ 9223372036854775807 := by
  intro x hx
  rcases h with ⟨rfl, rfl, rfl, rfl⟩ | ⟨_, rfl, _, _, _, _, hw⟩
  · simp at hx
  · have := bounds_i64 (hw x (List.mem_of_mem_take hx)); omega

theorem strs_at {w : World} {a : Addr} {ss : List ByteArray} (h : ∀ i, i < ss.length → w.cell? (a.add i) = some (.string (ss.getD i ByteArray.empty))) (hp : 0 < ss.length) :
    ∃ b off, a = ⟨b, off, none⟩ ∧ ∀ j, j < ss.length → w.cell? ⟨b, off + j, none⟩ = some (.string (ss.getD j ByteArray.empty)) := by
  obtain ⟨b, off, spot⟩ := a
  have hspot : spot = none := by simpa [Addr.add] using World.cell?_spot (h 0 hp)
  subst hspot
  exact ⟨b, off, rfl, fun j hj => by rw [← Go.WideShapes.add_plain]; exact h j hj⟩

theorem IsStrs.arg {w : World} {a : Option Addr} {len cap : Nat} {ss : List ByteArray} (h : IsStrs w a len cap ss) : Arg w a (ss.take len) cap Value.string ∧ (ss.take len).length = len := by
  rcases h with ⟨rfl, rfl, rfl, rfl⟩ | ⟨x, rfl, hl, _, hz, hcell, _⟩
  · exact ⟨⟨fun _ => ⟨rfl, rfl⟩, fun hp => by simp at hp⟩, rfl⟩
  · have hlen : (ss.take len).length = len := by rw [List.length_take]; omega
    refine ⟨⟨(fun e => by cases e), fun hp => ?_⟩, hlen⟩
    obtain ⟨b, off, rfl, hc⟩ := strs_at hcell (by omega)
    refine ⟨b, off, rfl, fun i hi => ?_⟩
    rw [hlen] at hi
    rw [hc i (by omega)]
    simp [List.getD, show i < ss.length by omega]

theorem IsStrs.sizes {w : World} {a : Option Addr} {len cap : Nat} {ss : List ByteArray} (h : IsStrs w a len cap ss) : ∀ s ∈ ss.take len, s.size ≤ maxLen := by
  intro s hs
  rcases h with ⟨rfl, rfl, rfl, rfl⟩ | ⟨_, rfl, _, _, _, _, hw⟩
  · simp at hs
  · exact hw s (List.mem_of_mem_take hs)

end Go.Proofs.Qxb6600870aMods
