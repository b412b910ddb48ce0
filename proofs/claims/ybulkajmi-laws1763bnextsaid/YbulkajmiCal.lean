import Derived.Test.YbulkajmiDate
namespace Go.Proofs.Ybulkajmi

def lpB (y : Int) : Bool := decide (y % 4 = 0 ∧ (y % 100 ≠ 0 ∨ y % 400 = 0))
def lp01 (y : Int) : Int := if lpB y = true then 1 else 0
def dim (y m : Int) : Int := if m = 2 then 28 + lp01 y else if m = 4 ∨ m = 6 ∨ m = 9 ∨ m = 11 then 30 else 31

theorem lp01_cases (y : Int) : (lp01 y = 1 ∧ y % 4 = 0 ∧ (y % 100 ≠ 0 ∨ y % 400 = 0)) ∨ (lp01 y = 0 ∧ ¬ (y % 4 = 0 ∧ (y % 100 ≠ 0 ∨ y % 400 = 0))) := by
  unfold lp01 lpB
  by_cases h : y % 4 = 0 ∧ (y % 100 ≠ 0 ∨ y % 400 = 0)
  · left; simp [h]
  · right; simp [h]

theorem q400 (c : Int) : ∃ a : Int, (c = 4 * a ∧ c * 146097 / 4 = 146097 * a) ∨ (c = 4 * a + 1 ∧ c * 146097 / 4 = 146097 * a + 36524) ∨ (c = 4 * a + 2 ∧ c * 146097 / 4 = 146097 * a + 73048) ∨ (c = 4 * a + 3 ∧ c * 146097 / 4 = 146097 * a + 109572) := by
  refine ⟨c / 4, ?_⟩
  have h : c = 4 * (c / 4) + c % 4 := by omega
  rcases (show c % 4 = 0 ∨ c % 4 = 1 ∨ c % 4 = 2 ∨ c % 4 = 3 by omega) with e | e | e | e
  · left; omega
  · right; left; omega
  · right; right; left; omega
  · right; right; right; omega

theorem q4 (y : Int) : ∃ a : Int, (y = 4 * a ∧ y * 1461 / 4 = 1461 * a) ∨ (y = 4 * a + 1 ∧ y * 1461 / 4 = 1461 * a + 365) ∨ (y = 4 * a + 2 ∧ y * 1461 / 4 = 1461 * a + 730) ∨ (y = 4 * a + 3 ∧ y * 1461 / 4 = 1461 * a + 1095) := by
  refine ⟨y / 4, ?_⟩
  rcases (show y % 4 = 0 ∨ y % 4 = 1 ∨ y % 4 = 2 ∨ y % 4 = 3 by omega) with e | e | e | e
  · left; omega
  · right; left; omega
  · right; right; left; omega
  · right; right; right; omega

theorem cent_core (n c c' t t' : Int) (h1 : 146097 * c ≤ 4 * n + 3) (h2 : 4 * n + 3 < 146097 * c + 146097) (h3 : 146097 * c' ≤ 4 * n + 7) (h4 : 4 * n + 7 < 146097 * c' + 146097)
    (ht : t = c * 146097 / 4) (ht' : t' = c' * 146097 / 4) :
    (c' = c ∧ t' = t ∧ (n - t < 36523 ∨ n - t = 36523 ∧ c % 4 = 3)) ∨
    (c' = c + 1 ∧ t' = n + 1 ∧ (n - t = 36523 ∧ c % 4 ≠ 3 ∨ n - t = 36524 ∧ c % 4 = 3)) := by
  have hc : c' = c ∨ c' = c + 1 := by omega
  obtain ⟨a, ha⟩ := q400 c
  rcases hc with e | e
  · left
    subst e
    refine ⟨rfl, by rw [ht, ht'], ?_⟩
    rw [← ht] at ha
    rcases ha with ⟨q1, q2⟩ | ⟨q1, q2⟩ | ⟨q1, q2⟩ | ⟨q1, q2⟩ <;> (clear ht ht'; omega)
  · right
    obtain ⟨b, hb⟩ := q400 c'
    rw [← ht] at ha
    rw [← ht'] at hb
    clear ht ht'
    refine ⟨e, ?_⟩
    rcases ha with ⟨q1, q2⟩ | ⟨q1, q2⟩ | ⟨q1, q2⟩ | ⟨q1, q2⟩ <;> rcases hb with ⟨p1, p2⟩ | ⟨p1, p2⟩ | ⟨p1, p2⟩ | ⟨p1, p2⟩ <;> omega

theorem century (n : Int) :
    (dC (n + 1) = dC n ∧ dN (n + 1) = dN n + 1 ∧ (dN n < 36523 ∨ dN n = 36523 ∧ dC n % 4 = 3)) ∨
    (dC (n + 1) = dC n + 1 ∧ dN (n + 1) = 0 ∧ (dN n = 36523 ∧ dC n % 4 ≠ 3 ∨ dN n = 36524 ∧ dC n % 4 = 3)) := by
  have h1 : 146097 * dC n ≤ 4 * n + 3 ∧ 4 * n + 3 < 146097 * dC n + 146097 := by unfold dC; omega
  have h2 : 146097 * dC (n + 1) ≤ 4 * n + 7 ∧ 4 * n + 7 < 146097 * dC (n + 1) + 146097 := by unfold dC; omega
  have h := cent_core n (dC n) (dC (n + 1)) _ _ h1.1 h1.2 h2.1 h2.2 rfl rfl
  have f1 : dN n = n - dC n * 146097 / 4 := rfl
  have f2 : dN (n + 1) = n + 1 - dC (n + 1) * 146097 / 4 := rfl
  clear h1 h2
  generalize dC n * 146097 / 4 = t at h f1
  generalize dC (n + 1) * 146097 / 4 = t' at h f2
  rcases h with ⟨e1, e2, e3⟩ | ⟨e1, e2, e3⟩
  · left; refine ⟨e1, ?_, ?_⟩ <;> omega
  · right; refine ⟨e1, ?_, ?_⟩ <;> omega

theorem year_core (N y y' t t' : Int) (h1 : 1461 * y ≤ 4 * N + 3) (h2 : 4 * N + 3 < 1461 * y + 1461) (h3 : 1461 * y' ≤ 4 * N + 7) (h4 : 4 * N + 7 < 1461 * y' + 1461)
    (ht : t = y * 1461 / 4) (ht' : t' = y' * 1461 / 4) :
    (y' = y ∧ t' = t ∧ (N - t < 364 ∨ N - t = 364 ∧ y % 4 = 3)) ∨
    (y' = y + 1 ∧ t' = N + 1 ∧ (N - t = 364 ∧ y % 4 ≠ 3 ∨ N - t = 365 ∧ y % 4 = 3)) := by
  have hc : y' = y ∨ y' = y + 1 := by omega
  obtain ⟨a, ha⟩ := q4 y
  rcases hc with e | e
  · left
    subst e
    refine ⟨rfl, by rw [ht, ht'], ?_⟩
    rw [← ht] at ha
    rcases ha with ⟨q1, q2⟩ | ⟨q1, q2⟩ | ⟨q1, q2⟩ | ⟨q1, q2⟩ <;> (clear ht ht'; omega)
  · right
    obtain ⟨b, hb⟩ := q4 y'
    rw [← ht] at ha
    rw [← ht'] at hb
    clear ht ht'
    refine ⟨e, ?_⟩
    rcases ha with ⟨q1, q2⟩ | ⟨q1, q2⟩ | ⟨q1, q2⟩ | ⟨q1, q2⟩ <;> rcases hb with ⟨p1, p2⟩ | ⟨p1, p2⟩ | ⟨p1, p2⟩ | ⟨p1, p2⟩ <;> omega

theorem year_same (n : Int) (h : dN (n + 1) = dN n + 1) :
    (dy (n + 1) = dy n ∧ dR (n + 1) = dR n + 1 ∧ (dR n < 364 ∨ dR n = 364 ∧ dy n % 4 = 3)) ∨
    (dy (n + 1) = dy n + 1 ∧ dR (n + 1) = 0 ∧ (dR n = 364 ∧ dy n % 4 ≠ 3 ∨ dR n = 365 ∧ dy n % 4 = 3)) := by
  have f1 : dy n = (4 * dN n + 3) / 1461 := rfl
  have f3 : dy (n + 1) = (4 * dN (n + 1) + 3) / 1461 := rfl
  have h1 : 1461 * dy n ≤ 4 * dN n + 3 ∧ 4 * dN n + 3 < 1461 * dy n + 1461 := by omega
  have h2 : 1461 * dy (n + 1) ≤ 4 * dN n + 7 ∧ 4 * dN n + 7 < 1461 * dy (n + 1) + 1461 := by omega
  have g := year_core (dN n) (dy n) (dy (n + 1)) _ _ h1.1 h1.2 h2.1 h2.2 rfl rfl
  have f2 : dR n = dN n - dy n * 1461 / 4 := rfl
  have f4 : dR (n + 1) = dN (n + 1) - dy (n + 1) * 1461 / 4 := rfl
  clear f1 f3 h1 h2
  generalize dy n * 1461 / 4 = t at g f2
  generalize dy (n + 1) * 1461 / 4 = t' at g f4
  rcases g with ⟨e1, e2, e3⟩ | ⟨e1, e2, e3⟩
  · left; refine ⟨e1, ?_, ?_⟩ <;> omega
  · right; refine ⟨e1, ?_, ?_⟩ <;> omega

/-- Which years are leap years, in the century's words. -/
theorem leap_of (c y : Int) (h0 : 0 ≤ y) (h1 : y ≤ 99) : (lp01 (-292277022800 + (100 * c + y) + 1) = 1 ∧ (y % 4 = 3 ∧ y ≠ 99 ∨ y = 99 ∧ c % 4 = 3)) ∨ (lp01 (-292277022800 + (100 * c + y) + 1) = 0 ∧ (y % 4 ≠ 3 ∨ y = 99 ∧ c % 4 ≠ 3)) := by
  have e4 : (-292277022800 + (100 * c + y) + 1) % 4 = (y + 1) % 4 := by omega
  have e100 : (-292277022800 + (100 * c + y) + 1) % 100 = (y + 1) % 100 := by omega
  rcases lp01_cases (-292277022800 + (100 * c + y) + 1) with ⟨l, q1, q2⟩ | ⟨l, q⟩
  · left
    refine ⟨l, ?_⟩
    by_cases e : y = 99
    · right
      refine ⟨e, ?_⟩
      subst e
      have : (-292277022800 + (100 * c + 99) + 1) % 400 = 0 := by omega
      omega
    · left
      omega
  · right
    refine ⟨l, ?_⟩
    by_cases e : y = 99
    · right
      refine ⟨e, ?_⟩
      subst e
      omega
    · left
      omega

/-- The step of the day in the year that begins in March. -/
theorem step (n : Int) (h0 : 0 ≤ n) :
    (100 * dC (n + 1) + dy (n + 1) = 100 * dC n + dy n ∧ dR (n + 1) = dR n + 1 ∧ dR n < 364 + lp01 (-292277022800 + (100 * dC n + dy n) + 1)) ∨
    (100 * dC (n + 1) + dy (n + 1) = 100 * dC n + dy n + 1 ∧ dR (n + 1) = 0 ∧ dR n = 364 + lp01 (-292277022800 + (100 * dC n + dy n) + 1)) := by
  have hy := dy_bd n h0
  have hy' := dy_bd (n + 1) (by omega)
  have hl := leap_of (dC n) (dy n) hy.1 hy.2
  have hN := dN_bd n h0
  generalize lp01 (-292277022800 + (100 * dC n + dy n) + 1) = l at hl ⊢
  have f2 : dR n = dN n - dy n * 1461 / 4 := rfl
  have k99 : dy n = 99 → dR n = dN n - 36159 := fun h => by rw [f2, h]; rfl
  rcases century n with ⟨e1, e2, e3⟩ | ⟨e1, e2, e3⟩
  · have hs := year_same n e2
    rw [e1]
    clear f2
    rcases hs with ⟨g1, g2, g3⟩ | ⟨g1, g2, g3⟩
    · left
      refine ⟨by omega, g2, ?_⟩
      omega
    · right
      refine ⟨by omega, g2, ?_⟩
      omega
  · right
    have f1 : dy n = (4 * dN n + 3) / 1461 := rfl
    have f3 : dy (n + 1) = (4 * dN (n + 1) + 3) / 1461 := rfl
    have f4 : dR (n + 1) = dN (n + 1) - dy (n + 1) * 1461 / 4 := rfl
    have k1 : dy (n + 1) = 0 := by rw [f3, e2]; rfl
    have k2 : dy n = 99 := by omega
    rw [k1, e2] at f4
    have k3 := k99 k2
    clear f1 f2 f3
    refine ⟨by omega, by omega, ?_⟩
    omega

/-- Months and days of the year that begins in March. -/
theorem month_core (R m l dm_ : Int) (hR : 0 ≤ R) (hm : m = (5 * R + 2) / 153) (hR2 : R ≤ 364 + l) (hl : l = 0 ∨ l = 1) (h1 : m ≤ 9 → dm_ = if m = 1 ∨ m = 3 ∨ m = 6 ∨ m = 8 then 30 else 31) (h2 : m = 10 → dm_ = 31) (h3 : m = 11 → dm_ = 28 + l) :
    0 ≤ m ∧ m ≤ 11 ∧ 1 ≤ R - (153 * m + 2) / 5 + 1 ∧ R - (153 * m + 2) / 5 + 1 ≤ dm_ ∧
    ((R - (153 * m + 2) / 5 + 1 ≠ dm_ ∧ R < 364 + l ∧ (5 * (R + 1) + 2) / 153 = m) ∨
     (R - (153 * m + 2) / 5 + 1 = dm_ ∧ R < 364 + l ∧ m ≤ 10 ∧ (5 * (R + 1) + 2) / 153 = m + 1 ∧ R + 1 - (153 * (m + 1) + 2) / 5 + 1 = 1) ∨
     (R - (153 * m + 2) / 5 + 1 = dm_ ∧ R = 364 + l ∧ m = 11)) := by
  have hb : 0 ≤ m ∧ m ≤ 11 := by omega
  have hr : 153 * m ≤ 5 * R + 2 ∧ 5 * R + 2 < 153 * m + 153 := by omega
  clear hm
  refine ⟨hb.1, hb.2, ?_⟩
  rcases (show m = 0 ∨ m = 1 ∨ m = 2 ∨ m = 3 ∨ m = 4 ∨ m = 5 ∨ m = 6 ∨ m = 7 ∨ m = 8 ∨ m = 9 ∨ m = 10 ∨ m = 11 by omega) with rfl | rfl | rfl | rfl | rfl | rfl | rfl | rfl | rfl | rfl | rfl | rfl
  all_goals simp at h1 h2 h3
  all_goals subst dm_
  all_goals omega

/-- THE PLAIN LAW: the date of n is valid, and the date of n + 1 is the next. -/
theorem next_date (n : Int) (h0 : 0 ≤ n) :
    (1 ≤ dM n ∧ dM n ≤ 12) ∧ (1 ≤ dD n ∧ dD n ≤ dim (dY n) (dM n)) ∧
    ((dD n ≠ dim (dY n) (dM n) ∧ dY (n + 1) = dY n ∧ dM (n + 1) = dM n ∧ dD (n + 1) = dD n + 1) ∨
     (dD n = dim (dY n) (dM n) ∧ dM n = 12 ∧ dY (n + 1) = dY n + 1 ∧ dM (n + 1) = 1 ∧ dD (n + 1) = 1) ∨
     (dD n = dim (dY n) (dM n) ∧ dM n ≠ 12 ∧ dY (n + 1) = dY n ∧ dM (n + 1) = dM n + 1 ∧ dD (n + 1) = 1)) := by
  have hR := dR_bd n h0
  have hs := step n h0
  have hl := lp01_cases (-292277022800 + (100 * dC n + dy n) + 1)
  have f1 : dm n = (5 * dR n + 2) / 153 := rfl
  have f2 : dm (n + 1) = (5 * dR (n + 1) + 2) / 153 := rfl
  have f3 : dD n = dR n - (153 * dm n + 2) / 5 + 1 := rfl
  have f4 : dD (n + 1) = dR (n + 1) - (153 * dm (n + 1) + 2) / 5 + 1 := rfl
  have f5 : dY n = if 10 ≤ dm n then -292277022800 + (100 * dC n + dy n) + 1 else -292277022800 + (100 * dC n + dy n) := rfl
  have f6 : dY (n + 1) = if 10 ≤ dm (n + 1) then -292277022800 + (100 * dC (n + 1) + dy (n + 1)) + 1 else -292277022800 + (100 * dC (n + 1) + dy (n + 1)) := rfl
  have f7 : dM n = if 10 ≤ dm n then dm n - 9 else dm n + 3 := rfl
  have f8 : dM (n + 1) = if 10 ≤ dm (n + 1) then dm (n + 1) - 9 else dm (n + 1) + 3 := rfl
  have f9 : dm n ≤ 9 → dim (dY n) (dM n) = (if dm n = 1 ∨ dm n = 3 ∨ dm n = 6 ∨ dm n = 8 then 30 else 31) := fun h => by
    have hm := (dm_bd n h0).1
    rw [f7, if_neg (by omega)]
    unfold dim
    rw [if_neg (by omega)]
    by_cases e : dm n = 1 ∨ dm n = 3 ∨ dm n = 6 ∨ dm n = 8
    · rw [if_pos (by omega), if_pos e]
    · rw [if_neg (by omega), if_neg e]
  have f10 : dm n = 10 → dim (dY n) (dM n) = 31 := fun h => by
    rw [f7, if_pos (by omega)]
    unfold dim
    rw [if_neg (by omega), if_neg (by omega)]
  have f11 : dm n = 11 → dim (dY n) (dM n) = 28 + lp01 (-292277022800 + (100 * dC n + dy n) + 1) := fun h => by
    rw [f7, if_pos (by omega), f5, if_pos (by omega)]
    unfold dim
    rw [if_pos (by omega)]
  have hc := month_core (dR n) (dm n) (lp01 (-292277022800 + (100 * dC n + dy n) + 1)) (dim (dY n) (dM n)) hR.1 f1 (by omega) (by omega) f9 f10 f11
  rw [← f3] at hc
  clear f9 f10 f11 hl hR
  generalize dim (dY n) (dM n) = d at hc ⊢
  generalize lp01 (-292277022800 + (100 * dC n + dy n) + 1) = l at hc hs
  obtain ⟨b1, b2, b3, b4, hc⟩ := hc
  have M1 : 1 ≤ dM n ∧ dM n ≤ 12 := by
    rw [f7]
    split <;> omega
  refine ⟨M1, ⟨b3, b4⟩, ?_⟩
  rcases hc with ⟨c1, c2, c3⟩ | ⟨c1, c2, c3, c4, c5⟩ | ⟨c1, c2, c3⟩
  · left
    obtain ⟨s1, s2, _⟩ : 100 * dC (n + 1) + dy (n + 1) = 100 * dC n + dy n ∧ dR (n + 1) = dR n + 1 ∧ True := by
      rcases hs with ⟨s1, s2, _⟩ | ⟨_, _, s3⟩
      · exact ⟨s1, s2, trivial⟩
      · omega
    have em : dm (n + 1) = dm n := by rw [f2, s2]; exact c3
    refine ⟨c1, by rw [f6, f5, em, s1], by rw [f8, f7, em], by rw [f4, f3, em, s2]; omega⟩
  · obtain ⟨s1, s2, _⟩ : 100 * dC (n + 1) + dy (n + 1) = 100 * dC n + dy n ∧ dR (n + 1) = dR n + 1 ∧ True := by
      rcases hs with ⟨s1, s2, _⟩ | ⟨_, _, s3⟩
      · exact ⟨s1, s2, trivial⟩
      · omega
    have em : dm (n + 1) = dm n + 1 := by rw [f2, s2]; exact c4
    have eD : dD (n + 1) = 1 := by rw [f4, em, s2]; exact c5
    rw [em, s1] at f6
    rw [em] at f8
    right
    by_cases e9 : dm n = 9
    · left
      rw [if_neg (by omega)] at f5 f7
      rw [if_pos (by omega)] at f6 f8
      exact ⟨c1, by omega, by omega, by omega, eD⟩
    · right
      by_cases e10 : dm n = 10
      · rw [if_pos (by omega)] at f5 f7 f6 f8
        exact ⟨c1, by omega, by omega, by omega, eD⟩
      · rw [if_neg (by omega)] at f5 f7 f6 f8
        exact ⟨c1, by omega, by omega, by omega, eD⟩
  · right
    right
    obtain ⟨s1, s2, _⟩ : 100 * dC (n + 1) + dy (n + 1) = 100 * dC n + dy n + 1 ∧ dR (n + 1) = 0 ∧ True := by
      rcases hs with ⟨_, _, s3⟩ | ⟨s1, s2, _⟩
      · omega
      · exact ⟨s1, s2, trivial⟩
    have em : dm (n + 1) = 0 := by rw [f2, s2]; rfl
    have eD : dD (n + 1) = 1 := by rw [f4, em, s2]; rfl
    rw [em, s1] at f6
    rw [em] at f8
    rw [if_pos (by omega)] at f5 f7
    rw [if_neg (by omega)] at f6 f8
    exact ⟨c1, by omega, by omega, by omega, eD⟩

end Go.Proofs.Ybulkajmi
