import Derived.Maps.Views
import Derived.Maps.Own
import Derived.Maps.OwnSet
namespace Go.Proofs.Qxb6600870aMods
open Go.RowKit

/-! ### the order of strings -/
theorem less_irrefl : ∀ x : List UInt8, Op.bytesLess x x = false
  | [] => rfl
  | a :: x => by
    rw [Op.bytesLess, less_irrefl x]
    simp

theorem less_trans : ∀ x y z : List UInt8, Op.bytesLess x y = true → Op.bytesLess y z = true → Op.bytesLess x z = true
  | [], [], _, h, _ => by simp [Op.bytesLess] at h
  | [], b :: y, [], _, h => by simp [Op.bytesLess] at h
  | [], b :: y, c :: z, _, _ => by simp [Op.bytesLess]
  | a :: x, [], _, h, _ => by simp [Op.bytesLess] at h
  | a :: x, b :: y, [], _, h => by simp [Op.bytesLess] at h
  | a :: x, b :: y, c :: z, h1, h2 => by
    simp only [Op.bytesLess, Bool.or_eq_true, Bool.and_eq_true, decide_eq_true_eq, beq_iff_eq] at h1 h2 ⊢
    have t : ∀ p q : UInt8, p < q ↔ p.toNat < q.toNat := fun p q => UInt8.lt_iff_toNat_lt
    rcases h1 with h1 | ⟨rfl, h1⟩
    · rcases h2 with h2 | ⟨rfl, h2⟩
      · left; rw [t] at *; omega
      · left; exact h1
    · rcases h2 with h2 | ⟨rfl, h2⟩
      · left; exact h2
      · right; exact ⟨rfl, less_trans x y z h1 h2⟩

/-! ### what a map holds, as a function of the key's bytes -/
abbrev Tab := List UInt8 → Option Int

def Tab.put (M : Tab) (s : List UInt8) (c : Int) : Tab := fun x => if x = s then some c else M x

/-- The map that reads as D holds what M says. -/
structure Says (D : DataW Unit) (M : Tab) : Prop where
  isMap : Maps.IsMap D
  has : ∀ s, Maps.has D (.string s) = (M s).isSome
  at_some : ∀ s c, M s = some c → ∀ zd, D.atKey (.string s) zd = .lit (.int .i64 c)
  at_none : ∀ s, M s = none → ∀ zd, D.atKey (.string s) zd = zd

theorem Says.empty : Says (.map []) (fun _ => none) :=
  ⟨Maps.isMap_empty, fun _ => rfl, (fun _ _ h => by cases h), fun _ _ _ => rfl⟩

theorem Says.put {D : DataW Unit} {M : Tab} (h : Says D M) (s : List UInt8) (c : Int) : Says (D.put (.string s) (.lit (.int .i64 c))) (M.put s c) := by
  have hk : WideAt.IsKeyLit (.string s) := by first | trivial | exact True.intro | constructor
  refine ⟨h.isMap.put _ _, fun x => ?_, fun x d hx zd => ?_, fun x hx zd => ?_⟩
  · by_cases e : x = s
    · subst e
      rw [Maps.has_put_same h.isMap hk]
      simp [Tab.put]
    · rw [Maps.has_put_other (fun e2 => e (by cases e2; rfl)), h.has]
      simp [Tab.put, e]
  · by_cases e : x = s
    · subst e
      rw [Maps.atKey_put_same h.isMap hk]
      simp [Tab.put] at hx
      rw [hx]
    · rw [Maps.atKey_put_other (fun e2 => e (by cases e2; rfl))]
      simp [Tab.put, e] at hx
      exact h.at_some x d hx zd
  · by_cases e : x = s
    · simp [Tab.put, e] at hx
    · rw [Maps.atKey_put_other (fun e2 => e (by cases e2; rfl))]
      simp [Tab.put, e] at hx
      exact h.at_none x hx zd

/-- The first n pairs, laid one after the other. -/
def tabTo (ks : List (List UInt8)) (cs : List Int) : Nat → Tab
  | 0 => fun _ => none
  | n + 1 => (tabTo ks cs n).put (ks.getD n []) (cs.getD n 0)

theorem tab_has (ks : List (List UInt8)) (cs : List Int) : ∀ n i, i < n → ∃ c, tabTo ks cs n (ks.getD i []) = some c
  | n + 1, i, h => by
    by_cases e : ks.getD i [] = ks.getD n []
    · exact ⟨cs.getD n 0, by rw [tabTo, Tab.put, if_pos e]⟩
    · have hi : i < n := by
        rcases Nat.lt_or_ge i n with h1 | h1
        · exact h1
        · exact absurd (by rw [show i = n by omega]) e
      obtain ⟨c, hc⟩ := tab_has ks cs n i hi
      exact ⟨c, by rw [tabTo, Tab.put, if_neg e]; exact hc⟩

theorem tab_key (ks : List (List UInt8)) (cs : List Int) : ∀ n s c, tabTo ks cs n s = some c → ∃ i, i < n ∧ ks.getD i [] = s
  | 0, _, _, h => by cases h
  | n + 1, s, c, h => by
    by_cases e : s = ks.getD n []
    · exact ⟨n, by omega, e.symm⟩
    · rw [tabTo, Tab.put, if_neg e] at h
      obtain ⟨i, hi, hs⟩ := tab_key ks cs n s c h
      exact ⟨i, by omega, hs⟩

/-! ### the commonest -/
/-- r is the answer for M. -/
def Best (M : Tab) (r : List UInt8) : Prop :=
  (r = [] ∧ ∀ s, M s = none) ∨ ∃ k, M r = some k ∧ ∀ s c, M s = some c → ¬ k < c ∧ ¬ (c = k ∧ Op.bytesLess s r = true)

/-- 'best' is the answer for what has come so far ('left': is the key still to come?). -/
def Part (M : Tab) (left : Lit → Bool) (r : List UInt8) : Prop :=
  (r = [] ∧ ∀ s c, M s = some c → left (.string s) = true) ∨ ∃ k, M r = some k ∧ ∀ s c, M s = some c → left (.string s) = false → ¬ k < c ∧ ¬ (c = k ∧ Op.bytesLess s r = true)

theorem Part.start {D : DataW Unit} {M : Tab} (h : Says D M) : Part M (Maps.has D) [] := .inl ⟨rfl, fun s c hs => by rw [h.has, hs]; rfl⟩

theorem Part.done {M : Tab} {left : Lit → Bool} {r : List UInt8} (h : Part M left r) (hl : ∀ kl, left kl = false) : Best M r := by
  rcases h with ⟨rfl, h⟩ | ⟨k, hk, h⟩
  · refine .inl ⟨rfl, fun s => ?_⟩
    cases hs : M s with
    | none => rfl
    | some c => have := h s c hs; rw [hl] at this; cases this
  · exact .inr ⟨k, hk, fun s c hs => h s c hs (hl _)⟩

/-- Once x has come: a key that has come is x, or had come before. -/
theorem come {left : Lit → Bool} {x s : List UInt8} (h : (left (.string s) && !(Lit.string s).sameKey (.string x)) = false) : s = x ∨ left (.string s) = false := by
  by_cases e : s = x
  · exact .inl e
  · right
    rw [Maps.sameKey_ne (fun e2 => e (by cases e2; rfl))] at h
    simpa using h

theorem Part.take {M : Tab} {left : Lit → Bool} {r x : List UInt8} {c : Int} (h : Part M left r) (hx : M x = some c)
    (ht : r = [] ∧ M [] = none ∨ (∃ k, M r = some k ∧ (k < c ∨ c = k ∧ Op.bytesLess x r = true))) : Part M (fun z => left z && !z.sameKey (.string x)) x := by
  refine .inr ⟨c, hx, fun s d hs hl => ?_⟩
  rcases come hl with rfl | hl
  · rw [hx] at hs
    cases hs
    exact ⟨by omega, fun e => by rw [less_irrefl] at e; cases e.2⟩
  · rcases h with ⟨rfl, h⟩ | ⟨k, hk, h⟩
    · have := h s d hs; rw [hl] at this; cases this
    · rcases ht with ⟨rfl, h0⟩ | ⟨k', hk', ht⟩
      · rw [h0] at hk; cases hk
      · rw [hk] at hk'
        cases hk'
        obtain ⟨h1, h2⟩ := h s d hs hl
        rcases ht with ht | ⟨rfl, ht⟩
        · exact ⟨by omega, fun e => by omega⟩
        · refine ⟨h1, fun e => h2 ⟨e.1, less_trans _ _ _ e.2 ht⟩⟩

theorem Part.keep {M : Tab} {left : Lit → Bool} {r x : List UInt8} {c k : Int} (h : Part M left r) (hx : M x = some c) (hr : M r = some k) (h0 : M [] = none)
    (ht : ¬ k < c ∧ ¬ (c = k ∧ Op.bytesLess x r = true)) : Part M (fun z => left z && !z.sameKey (.string x)) r := by
  refine .inr ⟨k, hr, fun s d hs hl => ?_⟩
  rcases come hl with rfl | hl
  · rw [hx] at hs
    cases hs
    exact ht
  · rcases h with ⟨rfl, h⟩ | ⟨k', hk', h⟩
    · rw [h0] at hr; cases hr
    · rw [hr] at hk'
      cases hk'
      exact h s d hs hl

theorem Part.some_of {M : Tab} {left : Lit → Bool} {r : List UInt8} (h : Part M left r) (hr : r ≠ []) : ∃ k, M r = some k := by
  rcases h with ⟨h, _⟩ | ⟨k, hk, _⟩
  · exact absurd h hr
  · exact ⟨k, hk⟩

end Go.Proofs.Qxb6600870aMods
