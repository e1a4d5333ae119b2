namespace Go.Proofs.Qxb6600648aMods

/-- The cipher file's size of a p-byte plaintext, at overhead o (layoutSizeB1 without its wraps). -/
def siz (p o : Int) : Int := if p = 0 then 0 else 18 + p / 4096 * (4096 + o) + (if p % 4096 = 0 then 0 else p % 4096 + o)

/-- What layoutFitsB1 answers. -/
def fitsB (p o c : Int) : Bool := decide (siz p o ≤ c)

/-- What PlainSize computes. -/
def ps (c o : Int) : Int := if c < 18 then (if c < 1 then c else 1) else (c - 18) / (4096 + o) * 4096 + (if 0 < (c - 18) % (4096 + o) then (if (c - 18) % (4096 + o) < o + 1 then 1 else (c - 18) % (4096 + o) - o) else 0)

theorem mul_nn (a b : Int) (ha : 0 ≤ a) (hb : 0 ≤ b) : 0 ≤ a * b := Int.mul_nonneg ha hb

theorem mul_mono (a b s : Int) (h : a ≤ b) (hs : 0 ≤ s) : a * s ≤ b * s := Int.mul_le_mul_of_nonneg_right h hs

theorem succ_mul (a s : Int) : (a + 1) * s = a * s + s := by rw [Int.add_mul, Int.one_mul]

/-- q > room/stride: q strides do not fit. -/
theorem over_room (room st q : Int) (hst : 0 < st) (h : room / st < q) : room < q * st := by
  have h1 := Int.lt_ediv_add_one_mul_self room hst
  have h2 := mul_mono (room / st + 1) q st (by omega) (by omega)
  omega

theorem in_room (room st q : Int) (hst : 0 < st) (h : q ≤ room / st) : q * st ≤ room := by
  have h1 := Int.ediv_mul_le room (b := st) (by omega)
  have h2 := mul_mono q (room / st) st h (by omega)
  omega

theorem siz_at (k r o : Int) (hr0 : 0 ≤ r) (hr : r < 4096) : siz (k * 4096 + r) o = if k = 0 ∧ r = 0 then 0 else 18 + k * (4096 + o) + (if r = 0 then 0 else r + o) := by
  have e1 : (k * 4096 + r) / 4096 = k := by omega
  have e2 : (k * 4096 + r) % 4096 = r := by omega
  unfold siz
  rw [e1, e2]
  by_cases h : k = 0 ∧ r = 0
  · rw [if_pos h, if_pos (by omega)]
  · rw [if_neg h, if_neg (by omega)]

theorem split_at (p : Int) (hp : 0 ≤ p) : ∃ k r : Int, 0 ≤ k ∧ 0 ≤ r ∧ r < 4096 ∧ p = k * 4096 + r := ⟨p / 4096, p % 4096, by omega, by omega, by omega, by omega⟩

theorem siz_mono (p p' o : Int) (hp : 0 ≤ p) (h : p ≤ p') (ho : 0 ≤ o) : siz p o ≤ siz p' o := by
  obtain ⟨k, r, hk, hr0, hr, rfl⟩ := split_at p hp
  obtain ⟨k', r', hk', hr0', hr', rfl⟩ := split_at p' (by omega)
  rw [siz_at k r o hr0 hr, siz_at k' r' o hr0' hr']
  have hA := mul_nn k (4096 + o) hk (by omega)
  by_cases e : k = k'
  · subst e
    split <;> split <;> (try split) <;> (try split) <;> omega
  · have hlt : k + 1 ≤ k' := by omega
    have hB := mul_mono (k + 1) k' (4096 + o) hlt (by omega)
    rw [succ_mul] at hB
    split <;> split <;> (try split) <;> (try split) <;> omega

theorem le_siz (p o : Int) (hp : 0 ≤ p) (ho : 0 ≤ o) : p ≤ siz p o := by
  obtain ⟨k, r, hk, hr0, hr, rfl⟩ := split_at p hp
  rw [siz_at k r o hr0 hr]
  have h1 : k * (4096 + o) = k * 4096 + k * o := Int.mul_add _ _ _
  have h2 := mul_nn k o hk ho
  split <;> (try split) <;> omega

/-- The body as k strides and a rest. -/
theorem body_at (b o : Int) (hb : 0 ≤ b) (ho : 0 ≤ o) : ∃ k t : Int, 0 ≤ k ∧ 0 ≤ t ∧ t < 4096 + o ∧ b = k * (4096 + o) + t ∧ b / (4096 + o) = k ∧ b % (4096 + o) = t := by
  refine ⟨b / (4096 + o), b % (4096 + o), Int.ediv_nonneg hb (by omega), Int.emod_nonneg _ (by omega), Int.emod_lt_of_pos _ (by omega), ?_, rfl, rfl⟩
  have := Int.mul_ediv_add_emod b (4096 + o)
  rw [Int.mul_comm] at this
  omega

theorem ps_at (k t o : Int) (hk : 0 ≤ k) (ht0 : 0 ≤ t) (ht : t < 4096 + o) (ho : 0 ≤ o) :
    ps (18 + (k * (4096 + o) + t)) o = k * 4096 + (if 0 < t then (if t < o + 1 then 1 else t - o) else 0) := by
  have hA := mul_nn k (4096 + o) hk (by omega)
  have e0 : 18 + (k * (4096 + o) + t) - 18 = t + k * (4096 + o) := by omega
  have e1 : (t + k * (4096 + o)) / (4096 + o) = k := by rw [Int.add_mul_ediv_right _ _ (by omega), Int.ediv_eq_zero_of_lt ht0 ht]; omega
  have e2 : (t + k * (4096 + o)) % (4096 + o) = t := by rw [Int.add_mul_emod_self_right, Int.emod_eq_of_lt ht0 ht]
  unfold ps
  rw [if_neg (by omega), e0, e1, e2]

/-- THE PLAIN LAW OF FnPlainSizeInvertsLayout. -/
theorem ps_siz (p o : Int) (hp : 0 ≤ p) (ho : 0 ≤ o) : ps (siz p o) o = p := by
  obtain ⟨k, r, hk, hr0, hr, rfl⟩ := split_at p hp
  rw [siz_at k r o hr0 hr]
  by_cases h : k = 0 ∧ r = 0
  · rw [if_pos h, h.1, h.2]
    rfl
  · rw [if_neg h]
    by_cases h0 : r = 0
    · subst h0
      rw [if_pos rfl]
      have := ps_at k 0 o hk (by omega) (by omega) ho
      rw [show 18 + k * (4096 + o) + 0 = 18 + (k * (4096 + o) + 0) from by omega, this]
      rfl
    · rw [if_neg h0]
      have := ps_at k (r + o) o hk (by omega) (by omega) ho
      rw [show 18 + k * (4096 + o) + (r + o) = 18 + (k * (4096 + o) + (r + o)) from by omega, this, if_pos (by omega)]
      split <;> omega

/-- THE PLAIN LAW OF FnPlainSizeMatchesLayoutSearch: lo is the largest plaintext that fits. -/
theorem ps_search (c o lo : Int) (hc : 0 ≤ c) (ho : 0 ≤ o) (hlo : 0 ≤ lo) (hfit : siz lo o ≤ c) (hmax : ∀ p, 0 ≤ p → siz p o ≤ c → p ≤ lo) :
    ps c o = if c ≠ 18 ∧ siz lo o ≠ c then lo + 1 else lo := by
  by_cases h18 : c < 18
  · have hl0 : lo = 0 := by
      by_cases h : lo = 0
      · exact h
      · obtain ⟨k, r, hk, hr0, hr, rfl⟩ := split_at lo hlo
        rw [siz_at k r o hr0 hr, if_neg (by omega)] at hfit
        have hA := mul_nn k (4096 + o) hk (by omega)
        split at hfit <;> omega
    subst hl0
    have e : siz 0 o = 0 := rfl
    rw [e]
    unfold ps
    rw [if_pos h18]
    split <;> split <;> omega
  · obtain ⟨k, t, hk, ht0, ht, hb, -, -⟩ := body_at (c - 18) o (by omega) ho
    obtain rfl : c = 18 + (k * (4096 + o) + t) := by omega
    rw [ps_at k t o hk ht0 ht ho]
    have hA := mul_nn k (4096 + o) hk (by omega)
    -- the largest that fits
    obtain ⟨r, hr⟩ : ∃ r, r = if o < t then t - o else 0 := ⟨_, rfl⟩
    have hr0 : 0 ≤ r := by rw [hr]; split <;> omega
    have hr1 : r < 4096 := by rw [hr]; split <;> omega
    have hP : siz (k * 4096 + r) o ≤ 18 + (k * (4096 + o) + t) := by
      rw [siz_at k r o hr0 hr1]
      split
      · omega
      · rw [hr]; split <;> split <;> omega
    have hQ : 18 + (k * (4096 + o) + t) < siz (k * 4096 + r + 1) o := by
      by_cases hw : r + 1 < 4096
      · have := siz_at k (r + 1) o (by omega) hw
        rw [show k * 4096 + (r + 1) = k * 4096 + r + 1 from by omega] at this
        rw [this, if_neg (by omega), if_neg (by omega), hr]
        split <;> omega
      · have := siz_at (k + 1) 0 o (by omega) (by omega)
        rw [show (k + 1) * 4096 + 0 = k * 4096 + r + 1 from by omega] at this
        rw [this, if_neg (by omega), if_pos rfl, succ_mul]
        omega
    have h1 := hmax _ (by omega) hP
    have h2 : lo ≤ k * 4096 + r := by
      by_cases h : k * 4096 + r + 1 ≤ lo
      · have := siz_mono (k * 4096 + r + 1) lo o (by omega) h ho
        omega
      · omega
    obtain rfl : lo = k * 4096 + r := by omega
    clear h1 h2 hmax hQ hP hfit
    rw [siz_at k r o hr0 hr1]
    by_cases hot : o < t
    · rw [if_pos hot] at hr
      subst hr
      rw [if_pos (by omega), if_neg (by omega), if_neg (by omega)]
    · rw [if_neg hot] at hr
      subst hr
      by_cases ht1 : 0 < t
      · rw [if_pos ht1, if_pos (by omega), if_pos]
        · omega
        · refine ⟨by omega, ?_⟩
          split
          · omega
          · rw [if_pos rfl]; omega
      · obtain rfl : t = 0 := by omega
        rw [if_neg (by omega), if_neg]
        rintro ⟨h1, h2⟩
        split at h2
        · rename_i hk0
          rw [hk0.1] at h1
          omega
        · rw [if_pos rfl] at h2; omega

end Go.Proofs.Qxb6600648aMods
