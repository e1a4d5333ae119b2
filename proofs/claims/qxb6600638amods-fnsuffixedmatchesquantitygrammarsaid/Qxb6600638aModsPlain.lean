namespace Go.Proofs.Qxb6600638aMods

/-- '0' <= c && c <= '9' -/
def dig (c : Int) : Bool := decide (48 ≤ c) && decide (c ≤ 57)

/-- The thirteen suffixes, in the law's own order. -/
def sufs : List (List Int) := [[75, 105], [77, 105], [71, 105], [84, 105], [80, 105], [69, 105], [109], [107], [77], [71], [84], [80], [69]]

/-- How many digits stand at the head. -/
def lead (zs : List Int) : Nat := (zs.takeWhile dig).length

/-- What 'suffixed' computes. -/
def sfx (zs : List Int) : Bool :=
  if lead zs = 0 then false
  else if lead zs < zs.length ∧ zs.getD (lead zs) 0 = 46 then
    (if lead (zs.drop (lead zs + 1)) = 0 then false else sufs.contains (zs.drop (lead zs + 1 + lead (zs.drop (lead zs + 1)))))
  else sufs.contains (zs.drop (lead zs))

/-- The k-th byte of a decimal: a point neither first nor last, or a digit. -/
def okAt (zs : List Int) (k : Nat) : Bool := if zs.getD k 0 = 46 then decide (k ≠ 0) && decide (k ≠ zs.length - 1) else dig (zs.getD k 0)

/-- What 'zzDecimal' computes. -/
def dec (zs : List Int) : Bool := decide (zs ≠ []) && decide (∀ k, k < zs.length → okAt zs k = true) && decide (zs.count 46 ≤ 1)

/-- The t-th suffix ends zs, and a decimal stands before it. -/
def hit (zs : List Int) (t : Nat) : Bool :=
  decide ((sufs.getD t []).length ≤ zs.length) && decide (zs.drop (zs.length - (sufs.getD t []).length) = sufs.getD t []) && dec (zs.take (zs.length - (sufs.getD t []).length))

/-- What 'zzSuffixModel' computes. -/
def mdl (zs : List Int) : Bool := (List.range 13).any (hit zs)

/-! ### lead -/
theorem lead_le (zs : List Int) : lead zs ≤ zs.length := by
  unfold lead; exact List.Sublist.length_le (List.takeWhile_sublist _)

theorem takeWhile_app (p : Int → Bool) : ∀ (a b : List Int), (∀ x ∈ a, p x = true) → (∀ x, b.head? = some x → p x = false) → (a ++ b).takeWhile p = a
  | [], [], _, _ => rfl
  | [], y :: b, _, h => by simp [h y rfl]
  | x :: a, b, h, h' => by
    rw [List.cons_append, List.takeWhile_cons, if_pos (h x (by simp)), takeWhile_app p a b (fun y hy => h y (by simp [hy])) h']

/-- A count k such that all ahead of k are digits and the k-th, if there is one, is none, IS 'lead'. -/
theorem lead_eq (zs : List Int) (k : Nat) (hk : k ≤ zs.length) (h : ∀ j, j < k → dig (zs.getD j 0) = true) (h' : k < zs.length → dig (zs.getD k 0) = false) : lead zs = k := by
  have e : zs = zs.take k ++ zs.drop k := (List.take_append_drop k zs).symm
  unfold lead
  rw [e, takeWhile_app dig]
  · simp; omega
  · intro x hx
    obtain ⟨j, hj, rfl⟩ := List.mem_iff_getElem.1 hx
    simp at hj
    have := h j (by omega)
    simpa [List.getD, show j < zs.length by omega] using this
  · intro x hx
    rw [List.head?_drop] at hx
    obtain ⟨hl, rfl⟩ := List.getElem?_eq_some_iff.1 hx
    have := h' hl
    simpa [List.getD, hl] using this

/-! ### the plain law -/
theorem mem_sufs (s : List Int) : s ∈ sufs ↔ ∃ t, t < 13 ∧ sufs.getD t [] = s := by
  constructor
  · intro h
    obtain ⟨t, ht, rfl⟩ := List.mem_iff_getElem.1 h
    exact ⟨t, ht, by simp [List.getD, ht]⟩
  · rintro ⟨t, ht, rfl⟩
    have : t < sufs.length := ht
    simp [List.getD, this]

theorem suf_head (s : List Int) (h : s ∈ sufs) : ∃ c r, s = c :: r ∧ dig c = false ∧ c ≠ 46 := by
  simp only [sufs, List.mem_cons, List.not_mem_nil, or_false] at h
  rcases h with rfl | rfl | rfl | rfl | rfl | rfl | rfl | rfl | rfl | rfl | rfl | rfl | rfl <;> exact ⟨_, _, rfl, by decide, by decide⟩

theorem mdl_iff (zs : List Int) : mdl zs = true ↔ ∃ p s, zs = p ++ s ∧ s ∈ sufs ∧ dec p = true := by
  have e : mdl zs = true ↔ ∃ t, t < 13 ∧ hit zs t = true := by simp [mdl]
  rw [e]
  constructor
  · rintro ⟨t, ht, h⟩
    simp only [hit, Bool.and_eq_true, decide_eq_true_eq] at h
    obtain ⟨⟨h1, h2⟩, h3⟩ := h
    refine ⟨_, _, ?_, (mem_sufs _).2 ⟨t, ht, rfl⟩, h3⟩
    conv => lhs; rw [← List.take_append_drop (zs.length - (sufs.getD t []).length) zs, h2]
  · rintro ⟨p, s, rfl, hs, hd⟩
    obtain ⟨t, ht, rfl⟩ := (mem_sufs s).1 hs
    refine ⟨t, ht, ?_⟩
    simp [hit, hd]

theorem dec_digits (d : List Int) (h0 : d ≠ []) (h : ∀ x ∈ d, dig x = true) : dec d = true := by
  have hne : ∀ x ∈ d, x ≠ 46 := fun x hx e => by have := h x hx; rw [e] at this; simp [dig] at this
  have hc : d.count 46 = 0 := List.count_eq_zero.2 fun hm => hne 46 hm rfl
  simp only [dec, Bool.and_eq_true, decide_eq_true_eq]
  refine ⟨⟨h0, fun k hk => ?_⟩, by omega⟩
  have hm : d.getD k 0 ∈ d := by simp [List.getD, hk]
  rw [okAt, if_neg (hne _ hm)]
  exact h _ hm

theorem dec_point (a b : List Int) (ha : a ≠ []) (hb : b ≠ []) (h : ∀ x ∈ a, dig x = true) (h' : ∀ x ∈ b, dig x = true) : dec (a ++ 46 :: b) = true := by
  have ne : ∀ x, dig x = true → x ≠ 46 := fun x hx e => by rw [e] at hx; simp [dig] at hx
  have ca : a.count 46 = 0 := List.count_eq_zero.2 fun hm => ne 46 (h 46 hm) rfl
  have cb : b.count 46 = 0 := List.count_eq_zero.2 fun hm => ne 46 (h' 46 hm) rfl
  simp only [dec, Bool.and_eq_true, decide_eq_true_eq]
  refine ⟨⟨by simp, fun k hk => ?_⟩, by simp [List.count_append, ca, cb]⟩
  have la : 0 < a.length := List.length_pos_iff.2 ha
  have lb : 0 < b.length := List.length_pos_iff.2 hb
  simp only [List.length_append, List.length_cons] at hk
  unfold okAt
  by_cases h1 : k < a.length
  · have e : (a ++ 46 :: b).getD k 0 = a[k] := by simp [List.getD, List.getElem?_append_left h1, h1]
    have hd := h _ (List.getElem_mem h1)
    rw [e, if_neg (ne _ hd)]; exact hd
  · by_cases h2 : k = a.length
    · have e : (a ++ 46 :: b).getD k 0 = 46 := by simp [List.getD, h2]
      rw [e, if_pos rfl]
      simp only [List.length_append, List.length_cons, Bool.and_eq_true, decide_eq_true_eq]
      omega
    · have h3 : k - a.length - 1 < b.length := by omega
      have e : (a ++ 46 :: b).getD k 0 = b[k - a.length - 1] := by
        rw [List.getD, List.getElem?_append_right (by omega)]
        obtain ⟨m, hm⟩ : ∃ m, k - a.length = m + 1 := ⟨k - a.length - 1, by omega⟩
        have : m < b.length := by omega
        simp [hm, this]
      have hd := h' _ (List.getElem_mem h3)
      rw [e, if_neg (ne _ hd)]; exact hd

/-- A decimal is a run of digits, or two with a point between. -/
theorem dec_form (p : List Int) (h : dec p = true) : (p ≠ [] ∧ ∀ x ∈ p, dig x = true) ∨ ∃ a b, p = a ++ 46 :: b ∧ a ≠ [] ∧ b ≠ [] ∧ (∀ x ∈ a, dig x = true) ∧ ∀ x ∈ b, dig x = true := by
  simp only [dec, Bool.and_eq_true, decide_eq_true_eq] at h
  obtain ⟨⟨h0, h1⟩, h2⟩ := h
  have hany : ∀ x ∈ p, x = 46 ∨ dig x = true := by
    intro x hx
    obtain ⟨k, hk, rfl⟩ := List.mem_iff_getElem.1 hx
    have := h1 k hk
    unfold okAt at this
    have e : p.getD k 0 = p[k] := by simp [List.getD, hk]
    rw [e] at this
    by_cases h : p[k] = 46
    · exact Or.inl h
    · rw [if_neg h] at this; exact Or.inr this
  by_cases hm : (46 : Int) ∈ p
  · right
    obtain ⟨a, b, rfl⟩ := List.append_of_mem hm
    have hc : a.count 46 = 0 ∧ b.count 46 = 0 := by simp [List.count_append] at h2; omega
    have hp := h1 a.length (by simp)
    have e : (a ++ 46 :: b).getD a.length 0 = 46 := by simp [List.getD]
    unfold okAt at hp
    rw [e, if_pos rfl] at hp
    simp only [List.length_append, List.length_cons, Bool.and_eq_true, decide_eq_true_eq] at hp
    refine ⟨a, b, rfl, fun e => hp.1 (by simp [e]), fun e => hp.2 (by simp [e]), fun x hx => ?_, fun x hx => ?_⟩
    · rcases hany x (by simp [hx]) with rfl | h
      · exact absurd hx (List.count_eq_zero.1 hc.1)
      · exact h
    · rcases hany x (by simp [hx]) with rfl | h
      · exact absurd hx (List.count_eq_zero.1 hc.2)
      · exact h
  · left
    refine ⟨h0, fun x hx => ?_⟩
    rcases hany x hx with rfl | h
    · exact absurd hx hm
    · exact h

theorem lead_app (d s : List Int) (h : ∀ x ∈ d, dig x = true) (h' : ∀ x, s.head? = some x → dig x = false) : lead (d ++ s) = d.length := by
  unfold lead; rw [takeWhile_app dig d s h h']

theorem take_lead (zs : List Int) : ∀ x ∈ zs.take (lead zs), dig x = true := by
  have e : zs.take (lead zs) = zs.takeWhile dig := by
    unfold lead
    have := List.takeWhile_append_dropWhile (p := dig) (l := zs)
    conv => lhs; rw [← this]
    exact List.take_left' (by rw [this])
  rw [e]
  exact List.all_eq_true.1 List.all_takeWhile

theorem sfx_iff (zs : List Int) : sfx zs = true ↔ ∃ p s, zs = p ++ s ∧ s ∈ sufs ∧ dec p = true := by
  constructor
  · intro h
    unfold sfx at h
    have hl := lead_le zs
    by_cases h0 : lead zs = 0
    · rw [if_pos h0] at h; cases h
    · rw [if_neg h0] at h
      by_cases hp : lead zs < zs.length ∧ zs.getD (lead zs) 0 = 46
      · rw [if_pos hp] at h
        by_cases h1 : lead (zs.drop (lead zs + 1)) = 0
        · rw [if_pos h1] at h; cases h
        · rw [if_neg h1] at h
          have hl1 := lead_le (zs.drop (lead zs + 1))
          rw [List.length_drop] at hl1
          refine ⟨_, _, (List.take_append_drop _ _).symm, by simpa using h, ?_⟩
          have e : zs.take (lead zs + 1 + lead (zs.drop (lead zs + 1))) = zs.take (lead zs) ++ 46 :: (zs.drop (lead zs + 1)).take (lead (zs.drop (lead zs + 1))) := by
            rw [List.take_add, List.take_succ_eq_append_getElem hp.1]
            have : zs[lead zs] = 46 := by have := hp.2; simpa [List.getD, hp.1] using this
            rw [this]; simp
          rw [e]
          refine dec_point _ _ ?_ ?_ (take_lead zs) (take_lead _)
          · intro e; have := congrArg List.length e; simp only [List.length_take, List.length_nil] at this; omega
          · intro e; have := congrArg List.length e; simp only [List.length_take, List.length_drop, List.length_nil] at this; omega
      · rw [if_neg hp] at h
        refine ⟨_, _, (List.take_append_drop _ _).symm, by simpa using h, dec_digits _ ?_ (take_lead zs)⟩
        intro e; have := congrArg List.length e; simp only [List.length_take, List.length_nil] at this; omega
  · rintro ⟨p, s, rfl, hs, hd⟩
    obtain ⟨c, r, rfl, hc, hc'⟩ := suf_head s hs
    rcases dec_form p hd with ⟨h0, h1⟩ | ⟨a, b, rfl, ha, hb, h1, h2⟩
    · have hl : lead (p ++ c :: r) = p.length := lead_app p _ h1 (by intro x hx; simp at hx; subst hx; exact hc)
      have hp : 0 < p.length := List.length_pos_iff.2 h0
      unfold sfx
      rw [hl, if_neg (by omega), if_neg]
      · simpa using hs
      · rintro ⟨_, h⟩; simp [List.getD] at h; exact hc' h
    · have hl : lead (a ++ 46 :: b ++ c :: r) = a.length := by
        rw [List.append_assoc]
        exact lead_app a _ h1 (by intro x hx; simp at hx; subst hx; rfl)
      have hla : 0 < a.length := List.length_pos_iff.2 ha
      have hlb : 0 < b.length := List.length_pos_iff.2 hb
      have hdr : (a ++ 46 :: b ++ c :: r).drop (a.length + 1) = b ++ c :: r := by
        have : (a ++ 46 :: b ++ c :: r) = (a ++ [46]) ++ (b ++ c :: r) := by simp
        rw [this]; exact List.drop_left' (by simp)
      have hl2 : lead (b ++ c :: r) = b.length := lead_app b _ h2 (by intro x hx; simp at hx; subst hx; exact hc)
      unfold sfx
      rw [hl, if_neg (by omega), if_pos, hdr, hl2, if_neg (by omega), ← List.drop_drop, hdr]
      · simpa using hs
      · refine ⟨by simp, ?_⟩
        simp [List.getD]

/-- THE PLAIN LAW. -/
theorem sfx_mdl (zs : List Int) : sfx zs = mdl zs := by
  rw [Bool.eq_iff_iff, sfx_iff, mdl_iff]

end Go.Proofs.Qxb6600638aMods
