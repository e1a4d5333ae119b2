import Derived.Test.Qxb6600729aModsBytes
namespace Go.Proofs.Qxb6600729aMods
open Go.RowKit

/-- The inbox holds: h zero deliveries, then those pushed and not yet popped (p popped, q pushed). -/
structure Inv (E : Env) (L : List Dv) (h p q : Nat) : Prop where
  le : p ≤ q
  hp : h ≤ p
  eq : L = List.replicate h Dv.zero ++ (List.range' p (q - p)).map E.dv
  none : p = q → h = 0

theorem Inv.start (E : Env) : Inv E [] 0 0 0 := ⟨Nat.le_refl _, Nat.le_refl _, rfl, fun _ => rfl⟩

theorem Inv.len {E : Env} {L : List Dv} {h p q : Nat} (i : Inv E L h p q) : L.length = h + (q - p) := by rw [i.eq]; simp
theorem Inv.small {E : Env} {L : List Dv} {h p q : Nat} (i : Inv E L h p q) : L.length ≤ q := by rw [i.len]; have := i.le; have := i.hp; omega
theorem Inv.hh {E : Env} {L : List Dv} {h p q : Nat} (i : Inv E L h p q) : h < L.length ∨ h = 0 := by
  rw [i.len]
  by_cases e : p = q
  · exact .inr (i.none e)
  · have := i.le; omega

theorem Inv.push {E : Env} {L : List Dv} {h p q : Nat} (i : Inv E L h p q) : Inv E (L ++ [E.dv q]) h p (q + 1) := by
  have hle := i.le
  refine ⟨by omega, i.hp, ?_, fun e => by omega⟩
  rw [i.eq, List.append_assoc]
  congr 1
  rw [show q + 1 - p = (q - p) + 1 from by omega, List.range'_concat, List.map_append, show p + 1 * (q - p) = q from by omega]
  rfl

theorem Inv.shift {E : Env} {L : List Dv} {h p q : Nat} (i : Inv E L h p q) : Inv E (L.drop h ++ [E.dv q]) 0 p (q + 1) := by
  have hle := i.le
  refine ⟨by omega, Nat.zero_le _, ?_, fun e => by omega⟩
  rw [i.eq, List.drop_left' (by simp), List.replicate_zero, List.nil_append]
  rw [show q + 1 - p = (q - p) + 1 from by omega, List.range'_concat, List.map_append, show p + 1 * (q - p) = q from by omega]
  rfl

theorem Inv.at {E : Env} {L : List Dv} {h p q : Nat} (i : Inv E L h p q) (j : Nat) (hl : h + j < L.length) : L[h + j] = E.dv (p + j) := by
  have hj : j < q - p := by have := i.len; omega
  have e : L[h + j]? = some (E.dv (p + j)) := by
    rw [i.eq, List.getElem?_append_right (by simp)]
    simp [hj]
  rw [List.getElem?_eq_getElem hl] at e
  exact Option.some.inj e

theorem Inv.head {E : Env} {L : List Dv} {h p q : Nat} (i : Inv E L h p q) (hlt : p < q) : ∃ hl : h < L.length, L[h] = E.dv p :=
  ⟨by rw [i.len]; omega, i.at 0 (by rw [i.len]; omega)⟩

theorem Inv.zeros {E : Env} {L : List Dv} {h p q : Nat} (i : Inv E L h p q) (j : Nat) (hj : j < h) (hl : j < L.length) : L[j] = Dv.zero := by
  have e : L[j]? = some Dv.zero := by
    rw [i.eq, List.getElem?_append_left (by simpa using hj)]
    simp [hj]
  rw [List.getElem?_eq_getElem hl] at e
  exact Option.some.inj e

theorem Inv.pop {E : Env} {L : List Dv} {h p q : Nat} (i : Inv E L h p q) (hlt : p < q) :
    Inv E (if h + 1 = L.length then [] else L.set h Dv.zero) (if h + 1 = L.length then 0 else h + 1) (p + 1) q := by
  have hlen := i.len
  have hp := i.hp
  by_cases e : h + 1 = L.length
  · rw [if_pos e, if_pos e]
    have : p + 1 = q := by omega
    subst this
    exact ⟨Nat.le_refl _, Nat.zero_le _, by simp, fun _ => rfl⟩
  · rw [if_neg e, if_neg e]
    refine ⟨by omega, by omega, ?_, fun e2 => by omega⟩
    rw [i.eq, List.set_append_right _ _ (by simp)]
    have e3 : q - p = (q - (p + 1)) + 1 := by omega
    rw [e3, List.range'_succ, List.map_cons, List.length_replicate, Nat.sub_self, List.set_cons_zero, List.replicate_succ', List.append_assoc]
    rfl
