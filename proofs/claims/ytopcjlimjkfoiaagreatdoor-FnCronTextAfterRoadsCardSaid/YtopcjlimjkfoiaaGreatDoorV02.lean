/-
FnCronTextAfterRoads: the calendar, the schedules, their texts and the zones, part 2 of 34.
-/
import Derived.Test.YtopcjlimjkfoiaaGreatDoorV01
import Derived.WalkKit
set_option linter.all false
namespace Go.Cal

def F (n : Nat) : Nat := firstD (n / 12) (n % 12 + 1)

theorem F_next (n : Nat) (h : 12 ≤ n) : F n < F (n + 1) := by
  have a := first_next (n / 12) (n % 12 + 1) (by omega) (by omega) (by omega)
  unfold nextY nextM at a
  unfold F
  by_cases e : n % 12 + 1 = 12
  · rw [if_pos e, if_pos e] at a
    rw [show (n + 1) / 12 = n / 12 + 1 by omega, show (n + 1) % 12 + 1 = 1 by omega]
    exact a
  · rw [if_neg e, if_neg e] at a
    rw [show (n + 1) / 12 = n / 12 by omega, show (n + 1) % 12 + 1 = n % 12 + 1 + 1 by omega]
    exact a

theorem F_le (n : Nat) (h : 12 ≤ n) : ∀ k, F n ≤ F (n + k)
  | 0 => Nat.le_refl _
  | k + 1 => by
    have a := F_le n h k
    have b := F_next (n + k) (by omega)
    rw [show n + (k + 1) = n + k + 1 by omega]
    omega

theorem F_of (Y M : Nat) (h1 : 1 ≤ M) (h2 : M ≤ 12) : F (12 * Y + (M - 1)) = firstD Y M := by
  unfold F
  rw [show (12 * Y + (M - 1)) / 12 = Y by omega, show (12 * Y + (M - 1)) % 12 + 1 = M by omega]

theorem F_nx (Y M : Nat) (h1 : 1 ≤ M) (h2 : M ≤ 12) : F (12 * Y + (M - 1) + 1) = firstD (nextY Y M) (nextM M) := by
  unfold F nextY nextM
  by_cases e : M = 12
  · rw [if_pos e, if_pos e, show (12 * Y + (M - 1) + 1) / 12 = Y + 1 by omega, show (12 * Y + (M - 1) + 1) % 12 + 1 = 1 by omega]
  · rw [if_neg e, if_neg e, show (12 * Y + (M - 1) + 1) / 12 = Y by omega, show (12 * Y + (M - 1) + 1) % 12 + 1 = M + 1 by omega]

theorem F_uniq {n m D : Nat} (hn : 12 ≤ n) (hm : 12 ≤ m) (a : F n ≤ D) (b : D < F (n + 1)) (c : F m ≤ D) (d : D < F (m + 1)) : n = m := by
  by_cases e : n < m
  · have := F_le (n + 1) (by omega) (m - (n + 1))
    rw [show n + 1 + (m - (n + 1)) = m by omega] at this
    omega
  · by_cases e2 : m < n
    · have := F_le (m + 1) (by omega) (n - (m + 1))
      rw [show m + 1 + (n - (m + 1)) = n by omega] at this
      omega
    · omega

theorem month_uniq {D Y M : Nat} (hD : 36525 ≤ D) (hY : 1 ≤ Y) (h1 : 1 ≤ M) (h2 : M ≤ 12) (a : firstD Y M ≤ D) (b : D < firstD (nextY Y M) (nextM M)) : yearD D = Y ∧ monD D = M := by
  obtain ⟨m1, m2, _⟩ := mon_range D
  have hy : 1 ≤ yearD D := by
    have : 1 ≤ cen D := by unfold cen; omega
    unfold yearD; omega
  have c := first_day D
  have d := before_next D
  rw [← F_of Y M h1 h2] at a
  rw [← F_nx Y M h1 h2] at b
  rw [← F_nx (yearD D) (monD D) m1 m2] at d
  rw [← F_of (yearD D) (monD D) m1 m2] at c
  have := F_uniq (by omega) (by omega) a b (by omega : F (12 * yearD D + (monD D - 1)) ≤ D) d
  omega

theorem year_pos (D : Nat) (h : 36525 ≤ D) : 1 ≤ yearD D := by
  have : 1 ≤ cen D := by unfold cen; omega
  unfold yearD; omega

theorem day_next (D : Nat) (h : 36525 ≤ D) : (dayD (D + 1) = 1 ∧ D + 1 = firstD (nextY (yearD D) (monD D)) (nextM (monD D))) ∨ (dayD (D + 1) ≠ 1 ∧ yearD (D + 1) = yearD D ∧ monD (D + 1) = monD D ∧ dayD (D + 1) = dayD D + 1) := by
  obtain ⟨m1, m2, _⟩ := mon_range D
  have hy := year_pos D h
  have a := first_day D
  have b := before_next D
  by_cases e : D + 1 = firstD (nextY (yearD D) (monD D)) (nextM (monD D))
  · refine .inl ⟨?_, e⟩
    rw [e]
    exact (first_read _ _ (by unfold nextY; split <;> omega) (by unfold nextM; split <;> omega) (by unfold nextM; split <;> omega)).2.2
  · obtain ⟨c1, c2⟩ := month_uniq (D := D + 1) (by omega) hy m1 m2 (by omega) (by omega)
    have d := first_day (D + 1)
    rw [c1, c2] at d
    have : 1 ≤ dayD (D + 1) := by unfold dayD; omega
    have : 1 ≤ dayD D := by unfold dayD; omega
    exact .inr ⟨by omega, c1, c2, by omega⟩

theorem year_lt (D L : Nat) (h : 36525 ≤ D) (hD : yearD D ≤ L) : D < firstD (L + 1) 1 := by
  have a := day_year D (year_pos D h)
  have b := first_mono (yearD D + 1) (by omega) (L - yearD D)
  rw [show yearD D + 1 + (L - yearD D) = L + 1 by omega] at b
  omega

theorem next_le (D L : Nat) (h : 36525 ≤ D) (hD : yearD D ≤ L) : firstD (nextY (yearD D) (monD D)) (nextM (monD D)) ≤ firstD (L + 1) 1 := by
  obtain ⟨m1, m2, _⟩ := mon_range D
  have hy := year_pos D h
  rw [← F_nx (yearD D) (monD D) m1 m2, ← F_of (L + 1) 1 (by omega) (by omega)]
  have := F_le (12 * yearD D + (monD D - 1) + 1) (by omega) (12 * (L + 1) + (1 - 1) - (12 * yearD D + (monD D - 1) + 1))
  rwa [show 12 * yearD D + (monD D - 1) + 1 + (12 * (L + 1) + (1 - 1) - (12 * yearD D + (monD D - 1) + 1)) = 12 * (L + 1) + (1 - 1) by omega] at this

end Go.Cal
namespace Go.Cal

structure Zn where
  n : Nat
  w : Nat → Int
  o : Nat → Int

def Zn.ix (z : Zn) (s : Int) : Nat → Nat
  | 0 => 0
  | k + 1 => if z.w (k + 1) ≤ s then k + 1 else z.ix s k
def Zn.idx (z : Zn) (s : Int) : Nat := z.ix s (z.n - 1)
def Zn.off (z : Zn) (s : Int) : Int := z.o (z.idx s)
def Zn.loc (z : Zn) (s : Int) : Int := s + z.off s

structure Plain (z : Zn) : Prop where
  pos : 0 < z.n
  first : z.w 0 = -9223372036854775808
  sorted : ∀ i, i + 1 < z.n → z.w i < z.w (i + 1)
  offs : ∀ i, i < z.n → -86400 ≤ z.o i ∧ z.o i ≤ 86400 ∧ z.o i % 60 = 0
  gap : ∀ i, 1 ≤ i → i + 1 < z.n → z.w i + 345600 ≤ z.w (i + 1)
  at_ : ∀ i, i + 1 < z.n → (z.w (i + 1) + z.o i) % 3600 = 0 ∧ (z.w (i + 1) + z.o (i + 1)) % 3600 = 0 ∧ z.o i - 3600 ≤ z.o (i + 1) ∧ (z.w (i + 1) + z.o i) / 86400 = (z.w (i + 1) + z.o (i + 1)) / 86400 ∧
    3600 ≤ (z.w (i + 1) + z.o i) % 86400 ∧ 3600 ≤ (z.w (i + 1) + z.o (i + 1)) % 86400

theorem Zn.ix_spec (z : Zn) (s : Int) (h0 : z.w 0 ≤ s) : ∀ k, z.ix s k ≤ k ∧ z.w (z.ix s k) ≤ s ∧ (z.ix s k < k → s < z.w (z.ix s k + 1))
  | 0 => ⟨Nat.le_refl _, h0, fun h => absurd h (Nat.lt_irrefl _)⟩
  | k + 1 => by
    obtain ⟨h1, h2, h3⟩ := z.ix_spec s h0 k
    unfold Zn.ix
    by_cases h : z.w (k + 1) ≤ s
    · rw [if_pos h]
      exact ⟨Nat.le_refl _, h, fun q => absurd q (Nat.lt_irrefl _)⟩
    · rw [if_neg h]
      refine ⟨by omega, h2, fun q => ?_⟩
      by_cases e : z.ix s k = k
      · rw [e]; omega
      · exact h3 (by omega)

theorem Plain.mono {z : Zn} (p : Plain z) : ∀ (d i : Nat), i + d + 1 < z.n + 1 → z.w i + (d : Int) ≤ z.w (i + d)
  | 0, i, _ => by simp
  | d + 1, i, h => by
    have a := p.mono d i (by omega)
    have b := p.sorted (i + d) (by omega)
    have e : i + (d + 1) = i + d + 1 := by omega
    rw [e]
    omega

theorem Plain.spec {z : Zn} (p : Plain z) (s : Int) (h0 : -9223372036854775808 ≤ s) : z.idx s < z.n ∧ z.w (z.idx s) ≤ s ∧ (z.idx s + 1 < z.n → s < z.w (z.idx s + 1)) := by
  have h := p.pos
  obtain ⟨a, b, c⟩ := z.ix_spec s (by rw [p.first]; exact h0) (z.n - 1)
  exact ⟨by unfold Zn.idx; omega, b, fun q => c (by unfold Zn.idx at q; omega)⟩

theorem Plain.uniq {z : Zn} (p : Plain z) {s : Int} (h0 : -9223372036854775808 ≤ s) {j : Nat} (hj : j < z.n) (h1 : z.w j ≤ s) (h2 : j + 1 < z.n → s < z.w (j + 1)) : z.idx s = j := by
  obtain ⟨a, b, c⟩ := p.spec s h0
  by_cases e : z.idx s = j
  · exact e
  · exfalso
    by_cases l : z.idx s < j
    · have := p.mono (j - (z.idx s + 1)) (z.idx s + 1) (by omega)
      rw [show z.idx s + 1 + (j - (z.idx s + 1)) = j by omega] at this
      have := c (by omega)
      omega
    · have := p.mono (z.idx s - (j + 1)) (j + 1) (by omega)
      rw [show j + 1 + (z.idx s - (j + 1)) = z.idx s by omega] at this
      have := h2 (by omega)
      omega

theorem Plain.step {z : Zn} (p : Plain z) (s h : Int) (h0 : -9223372036854775808 ≤ s) (hh : 0 ≤ h) (h4 : h ≤ 345600) :
    (z.idx (s + h) = z.idx s ∧ z.off (s + h) = z.off s) ∨ (z.idx s + 1 < z.n ∧ z.idx (s + h) = z.idx s + 1 ∧ s < z.w (z.idx s + 1) ∧ z.w (z.idx s + 1) ≤ s + h) := by
  obtain ⟨a, b, c⟩ := p.spec s h0
  by_cases e : z.idx s + 1 < z.n ∧ z.w (z.idx s + 1) ≤ s + h
  · refine .inr ⟨e.1, ?_, c e.1, e.2⟩
    refine p.uniq (by omega) e.1 e.2 fun q => ?_
    have := p.gap (z.idx s + 1) (by omega) q
    have := c e.1
    omega
  · have e1 : z.idx (s + h) = z.idx s := p.uniq (by omega) a (by omega) fun q => by
      by_cases l : s + h < z.w (z.idx s + 1)
      · exact l
      · exact absurd ⟨q, by omega⟩ e
    exact .inl ⟨e1, by unfold Zn.off; rw [e1]⟩

theorem Plain.bd {z : Zn} (p : Plain z) (s : Int) (h0 : -9223372036854775808 ≤ s) : -86400 ≤ z.off s ∧ z.off s ≤ 86400 ∧ z.off s % 60 = 0 := p.offs _ (p.spec s h0).1

theorem Plain.hour {z : Zn} (p : Plain z) (s : Int) (h0 : -9223372036854775808 ≤ s) (hs : z.loc s % 3600 = 0) :
    z.loc (s + 3600) % 3600 = 0 ∧ (z.loc (s + 3600) / 86400 = z.loc s / 86400 ∨ (z.loc (s + 3600) / 86400 = z.loc s / 86400 + 1 ∧ z.loc (s + 3600) % 86400 = 0)) := by
  unfold Zn.loc at *
  rcases p.step s 3600 h0 (by omega) (by omega) with ⟨_, e⟩ | ⟨e1, e2, e3, e4⟩
  · rw [e]; omega
  · obtain ⟨a1, a2, a3, a4, a5, a6⟩ := p.at_ _ e1
    have e5 : z.off (s + 3600) = z.o (z.idx s + 1) := by unfold Zn.off; rw [e2]
    have e6 : z.off s = z.o (z.idx s) := rfl
    rw [e5]
    rw [e6] at hs ⊢
    generalize z.w (z.idx s + 1) = W at *
    generalize z.o (z.idx s) = A at *
    generalize z.o (z.idx s + 1) = B at *
    omega

theorem Plain.minute {z : Zn} (p : Plain z) (s h : Int) (h0 : -9223372036854775808 ≤ s) (hh : 0 ≤ h) (h4 : h ≤ 60) : (z.loc (s + h) - (z.loc s + h)) % 3600 = 0 := by
  unfold Zn.loc
  rcases p.step s h h0 (by omega) (by omega) with ⟨_, e⟩ | ⟨e1, e2, e3, e4⟩
  · rw [e]; omega
  · obtain ⟨a1, a2, a3, a4, a5, a6⟩ := p.at_ _ e1
    have e5 : z.off (s + h) = z.o (z.idx s + 1) := by unfold Zn.off; rw [e2]
    have e6 : z.off s = z.o (z.idx s) := rfl
    rw [e5, e6]
    omega

theorem Plain.floorHour {z : Zn} (p : Plain z) (s : Int) (h0 : -9223372036854770000 ≤ s) : z.loc (s - z.loc s % 3600) = z.loc s - z.loc s % 3600 := by
  obtain ⟨r, hr⟩ : ∃ r, r = z.loc s % 3600 := ⟨_, rfl⟩
  rw [← hr]
  have hb : 0 ≤ r ∧ r < 3600 := by omega
  have e := p.step (s - r) r (by omega) hb.1 (by omega)
  rw [show s - r + r = s by omega] at e
  unfold Zn.loc at *
  rcases e with ⟨_, e⟩ | ⟨e1, e2, e3, e4⟩
  · rw [e]; omega
  · exfalso
    obtain ⟨a1, a2, a3, a4, a5, a6⟩ := p.at_ _ e1
    have e5 : z.off s = z.o (z.idx (s - r) + 1) := by unfold Zn.off; rw [e2]
    rw [e5] at hr
    omega

def Zn.find (z : Zn) (l : Int) : Int :=
  let j := z.idx l
  if z.o j = 0 then l else
  let u := l - z.o j
  if u < z.w j ∨ (j + 1 < z.n ∧ z.w (j + 1) ≤ u) then l - z.off u else u

theorem Plain.find {z : Zn} (p : Plain z) (l s0 : Int) (h0 : -9223372036854000000 ≤ l) (hs : z.loc s0 = l) (hs0 : -9223372036854775808 ≤ s0) : z.loc (z.find l) = l := by
  obtain ⟨a, b, c⟩ := p.spec l (by omega)
  have hbd := p.offs _ a
  have hb0 := p.bd s0 hs0
  unfold Zn.find
  by_cases h1 : z.o (z.idx l) = 0
  · simp only [h1, if_true]
    unfold Zn.loc Zn.off
    rw [h1]; omega
  · simp only [h1, if_false]
    by_cases h2 : l - z.o (z.idx l) < z.w (z.idx l) ∨ (z.idx l + 1 < z.n ∧ z.w (z.idx l + 1) ≤ l - z.o (z.idx l))
    · rw [if_pos h2]
      rcases h2 with h2 | ⟨h2, h3⟩
      · -- an earlier one
        have hj : z.idx l ≠ 0 := fun e => by rw [e, p.first] at h2; rw [e] at hbd; omega
        obtain ⟨i, hi⟩ : ∃ i, z.idx l = i + 1 := ⟨z.idx l - 1, by omega⟩
        rw [hi] at a b c hbd h1 h2
        have hbi := p.offs i (by omega)
        have hlow : z.w i + 345600 ≤ z.w (i + 1) ∨ i = 0 := by
          by_cases e : i = 0
          · exact .inr e
          · exact .inl (p.gap i (by omega) a)
        have hw0 := p.first
        have hiu : ∀ u, u < z.w (i + 1) → l - 200000 ≤ u → z.idx u = i := fun u h1 h2 => p.uniq (by omega) (by omega) (by
          rcases hlow with q | q
          · omega
          · rw [q, hw0]; omega) (fun _ => h1)
        have hu : z.idx (l - z.o (i + 1)) = i := hiu _ (by omega) (by omega)
        have e1 : z.off (l - z.o (z.idx l)) = z.o i := by unfold Zn.off; rw [hi, hu]
        rw [e1]
        have hlt : l - z.o i < z.w (i + 1) := by
          by_cases q : l - z.o i < z.w (i + 1)
          · exact q
          · exfalso
            unfold Zn.loc at hs
            by_cases l1 : s0 < z.w (i + 1)
            · have := hiu s0 l1 (by omega)
              have e : z.off s0 = z.o i := by unfold Zn.off; rw [this]
              rw [e] at hs; omega
            · have : z.idx s0 = i + 1 := p.uniq hs0 a (by omega) (fun q => by have := p.gap (i + 1) (by omega) q; omega)
              have e : z.off s0 = z.o (i + 1) := by unfold Zn.off; rw [this]
              rw [e] at hs; omega
        have := hiu (l - z.o i) hlt (by omega)
        unfold Zn.loc Zn.off
        rw [this]; omega
      · -- a later one
        obtain ⟨j, hj⟩ : ∃ j, j = z.idx l := ⟨_, rfl⟩
        rw [← hj] at a b c hbd h1 h2 h3 ⊢
        have hbi := p.offs (j + 1) h2
        have hiu : ∀ u, z.w (j + 1) ≤ u → u ≤ l + 200000 → z.idx u = j + 1 := fun u h1 h3 => p.uniq (by omega) h2 h1 (fun q => by have := p.gap (j + 1) (by omega) q; have := c h2; omega)
        have hu : z.idx (l - z.o j) = j + 1 := hiu _ h3 (by omega)
        have e1 : z.off (l - z.o j) = z.o (j + 1) := by unfold Zn.off; rw [hu]
        rw [e1]
        have hlt : z.w (j + 1) ≤ l - z.o (j + 1) := by
          by_cases q : z.w (j + 1) ≤ l - z.o (j + 1)
          · exact q
          · exfalso
            unfold Zn.loc at hs
            by_cases l1 : z.w (j + 1) ≤ s0
            · have := hiu s0 l1 (by omega)
              have e : z.off s0 = z.o (j + 1) := by unfold Zn.off; rw [this]
              rw [e] at hs; omega
            · have : z.idx s0 = j := p.uniq hs0 a (by
                by_cases e : j = 0
                · rw [e, p.first]; omega
                · have := p.gap j (by omega) h2
                  have := c h2
                  omega) (fun _ => by omega)
              have e : z.off s0 = z.o j := by unfold Zn.off; rw [this]
              rw [e] at hs; omega
        have := hiu (l - z.o (j + 1)) hlt (by omega)
        unfold Zn.loc Zn.off
        rw [this]; omega
    · rw [if_neg h2]
      have := p.uniq (s := l - z.o (z.idx l)) (by omega) a (by omega) (fun q => by
        by_cases e : l - z.o (z.idx l) < z.w (z.idx l + 1)
        · exact e
        · exact absurd (.inr ⟨q, by omega⟩) h2)
      unfold Zn.loc Zn.off
      rw [this]; omega

end Go.Cal
namespace Go.Cal

theorem least {P : Nat → Prop} [DecidablePred P] : ∀ n, P n → ∃ k, k ≤ n ∧ P k ∧ ∀ j, j < k → ¬ P j
  | 0, h => ⟨0, Nat.le_refl _, h, fun j hj => absurd hj (Nat.not_lt_zero _)⟩
  | n + 1, h => by
    by_cases e : ∃ m, m ≤ n ∧ P m
    · obtain ⟨m, hm, hp⟩ := e
      obtain ⟨k, a, b, c⟩ := least m hp
      exact ⟨k, by omega, b, c⟩
    · exact ⟨n + 1, Nat.le_refl _, h, fun j hj hp => e ⟨j, by omega, hp⟩⟩

theorem Plain.tick {z : Zn} (p : Plain z) (s : Int) (h0 : -9223372036854775808 ≤ s) : z.loc (s + 1) = z.loc s + 1 ∨ z.loc (s + 1) / 86400 = z.loc s / 86400 := by
  unfold Zn.loc
  rcases p.step s 1 h0 (by omega) (by omega) with ⟨_, e⟩ | ⟨e1, e2, e3, e4⟩
  · rw [e]; omega
  · right
    obtain ⟨a1, a2, a3, a4, a5, a6⟩ := p.at_ _ e1
    have e5 : z.off (s + 1) = z.o (z.idx s + 1) := by unfold Zn.off; rw [e2]
    have e6 : z.off s = z.o (z.idx s) := rfl
    rw [e5, e6]
    have e7 : z.w (z.idx s + 1) = s + 1 := by omega
    rw [e7] at a1 a2 a4 a5 a6
    omega

theorem Plain.midnight {z : Zn} (p : Plain z) (D : Int) (h0 : -9223372036854000000 ≤ 86400 * D) : ∃ s, 86400 * D - 100000 ≤ s ∧ z.loc s = 86400 * D := by
  have hb := p.bd (86400 * D - 100000 + 200000) (by omega)
  obtain ⟨k, hk, h1, h2⟩ := least (P := fun k : Nat => 86400 * D ≤ z.loc (86400 * D - 100000 + (k : Int))) 200000 (by
    show 86400 * D ≤ z.loc (86400 * D - 100000 + 200000)
    unfold Zn.loc
    omega)
  match k with
  | 0 =>
    exfalso
    have hb := p.bd (86400 * D - 100000 + ((0 : Nat) : Int)) (by omega)
    unfold Zn.loc at h1
    omega
  | k + 1 =>
    have h3 := h2 k (by omega)
    refine ⟨86400 * D - 100000 + ((k + 1 : Nat) : Int), by omega, ?_⟩
    have e : 86400 * D - 100000 + ((k + 1 : Nat) : Int) = 86400 * D - 100000 + (k : Int) + 1 := by omega
    rw [e] at h1 ⊢
    rcases p.tick (86400 * D - 100000 + (k : Int)) (by omega) with q | q
    · rw [q] at h1 ⊢; omega
    · exfalso
      omega

end Go.Cal
namespace Go.Cal

def C0 : Int := 9223372028741760000
theorem c0_days : C0 = 86400 * 106752037369696 + (C0 - 86400 * 106752037369696) := by omega
def dayI (z : Zn) (t : Int) : Int := (z.loc t + C0) / 86400
def dayN (z : Zn) (t : Int) : Nat := (dayI z t).toNat
def sod (z : Zn) (t : Int) : Int := (z.loc t + C0) % 86400

def dateU (z : Zn) (D : Int) (s : Int) : Int := z.find (86400 * D + s - C0)
def yr (z : Zn) (t : Int) : Nat := yearD (dayN z t)
def mo (z : Zn) (t : Int) : Nat := monD (dayN z t)
def dy (z : Zn) (t : Int) : Nat := dayD (dayN z t)
def hr (z : Zn) (t : Int) : Nat := (sod z t / 3600).toNat
def mi (z : Zn) (t : Int) : Nat := (sod z t % 3600 / 60).toNat
def sc (z : Zn) (t : Int) : Nat := (sod z t % 60).toNat
def wd (z : Zn) (t : Int) : Nat := (dayN z t + 3) % 7

structure Par where
  z : Zn
  lim : Nat
  hMo : Nat → Bool
  hDy : Nat → Nat → Bool
  hHr : Nat → Bool
  hMi : Nat → Bool
  hSc : Nat → Bool

inductive Ph | wr | mo | dy | hr | mi | sc
structure St where
  ph : Ph
  t : Int
  ad : Bool

def Par.first (p : Par) (t : Int) : Int := dateU p.z (firstD (yr p.z t) (mo p.z t)) 0
def Par.mid (p : Par) (t : Int) : Int := dateU p.z (firstD (yr p.z t) (mo p.z t) + (dy p.z t - 1 : Nat)) 0
def Par.hour (p : Par) (t : Int) : Int := dateU p.z (firstD (yr p.z t) (mo p.z t) + (dy p.z t - 1 : Nat)) (3600 * (sod p.z t / 3600))
def Par.addMonth (p : Par) (t : Int) : Int := dateU p.z (firstD (nextY (yr p.z t) (mo p.z t)) (nextM (mo p.z t)) + (dy p.z t - 1 : Nat)) (sod p.z t)
def Par.addDay (p : Par) (t : Int) : Int := dateU p.z (firstD (yr p.z t) (mo p.z t) + (dy p.z t : Nat)) (sod p.z t)
def Par.step (p : Par) (s : St) : St ⊕ Option Int :=
  match s.ph with
  | .wr => if p.lim < yr p.z s.t then .inr none else .inl ⟨.mo, s.t, s.ad⟩
  | .mo => if p.hMo (mo p.z s.t) then .inl ⟨.dy, s.t, s.ad⟩ else
    let t := p.addMonth (if s.ad then s.t else p.first s.t)
    .inl ⟨if mo p.z t = 1 then .wr else .mo, t, true⟩
  | .dy => if p.hDy (dy p.z s.t) (wd p.z s.t) then .inl ⟨.hr, s.t, s.ad⟩ else
    let t := p.addDay (if s.ad then s.t else p.mid s.t)
    .inl ⟨if dy p.z t = 1 then .wr else .dy, t, true⟩
  | .hr => if p.hHr (hr p.z s.t) then .inl ⟨.mi, s.t, s.ad⟩ else
    let t := (if s.ad then s.t else p.hour s.t) + 3600
    .inl ⟨if hr p.z t = 0 then .wr else .hr, t, true⟩
  | .mi => if p.hMi (mi p.z s.t) then .inl ⟨.sc, s.t, s.ad⟩ else
    let t := (if s.ad then s.t else s.t - s.t % 60) + 60
    .inl ⟨if mi p.z t = 0 then .wr else .mi, t, true⟩
  | .sc => if p.hSc (sc p.z s.t) then .inr (some s.t) else
    let t := s.t + 1
    .inl ⟨if sc p.z t = 0 then .wr else .sc, t, true⟩

def Par.Side (p : Par) (s : St) : Prop :=
  match s.ph with
  | .dy => p.hDy (dy p.z s.t) (wd p.z s.t) = false → hr p.z (p.addDay (if s.ad then s.t else p.mid s.t)) = 0
  | _ => True

inductive Par.Run (p : Par) (B : Int) : Nat → St → Option Int → Prop
  | fin {s : St} {r : Option Int} (lo : -2000000000000000 ≤ s.t) (hi : s.t ≤ B) (h : p.step s = .inr r) : Par.Run p B 0 s r
  | on {n : Nat} {s s' : St} {r : Option Int} (lo : -2000000000000000 ≤ s.t) (hi : s.t ≤ B) (x : p.Side s) (h : p.step s = .inl s') (e : Par.Run p B n s' r) : Par.Run p B (n + 1) s r

def Par.Ends (p : Par) (B : Int) (s : St) : Prop := ∃ n r, p.Run B n s r

theorem Par.Ends.of_step {p : Par} {B : Int} {s s' : St} (lo : -2000000000000000 ≤ s.t) (hi : s.t ≤ B) (x : p.Side s) (h : p.step s = .inl s') (e : p.Ends B s') : p.Ends B s := by
  obtain ⟨n, r, hr⟩ := e
  exact ⟨n + 1, r, .on lo hi x h hr⟩
theorem Par.Ends.of_end {p : Par} {B : Int} {s : St} {r : Option Int} (lo : -2000000000000000 ≤ s.t) (hi : s.t ≤ B) (h : p.step s = .inr r) : p.Ends B s := ⟨0, r, .fin lo hi h⟩

theorem Plain.go60 {z : Zn} (p : Plain z) (s : Int) (h0 : -9223372036854775808 ≤ s) (hs : z.loc s % 60 = 0) :
    z.loc (s + 60) % 60 = 0 ∧ (z.loc (s + 60) / 3600 = z.loc s / 3600 ∨ z.loc (s + 60) % 3600 = 0) ∧ (z.loc (s + 60) / 86400 = z.loc s / 86400 ∨ (z.loc (s + 60) / 86400 = z.loc s / 86400 + 1 ∧ z.loc (s + 60) % 86400 = 0)) := by
  unfold Zn.loc at *
  rcases p.step s 60 h0 (by omega) (by omega) with ⟨_, e⟩ | ⟨e1, e2, e3, e4⟩
  · rw [e]; omega
  · obtain ⟨a1, a2, a3, a4, a5, a6⟩ := p.at_ _ e1
    have e5 : z.off (s + 60) = z.o (z.idx s + 1) := by unfold Zn.off; rw [e2]
    have e6 : z.off s = z.o (z.idx s) := rfl
    rw [e5]
    rw [e6] at hs ⊢
    generalize z.w (z.idx s + 1) = W at *
    generalize z.o (z.idx s) = A at *
    generalize z.o (z.idx s + 1) = B at *
    omega

theorem Plain.go1 {z : Zn} (p : Plain z) (s : Int) (h0 : -9223372036854775808 ≤ s) :
    (z.loc (s + 1) / 60 = z.loc s / 60 ∨ z.loc (s + 1) % 60 = 0) ∧ (z.loc (s + 1) / 3600 = z.loc s / 3600 ∨ z.loc (s + 1) % 3600 = 0) ∧ (z.loc (s + 1) / 86400 = z.loc s / 86400 ∨ (z.loc (s + 1) / 86400 = z.loc s / 86400 + 1 ∧ z.loc (s + 1) % 86400 = 0)) := by
  unfold Zn.loc at *
  rcases p.step s 1 h0 (by omega) (by omega) with ⟨_, e⟩ | ⟨e1, e2, e3, e4⟩
  · rw [e]; omega
  · obtain ⟨a1, a2, a3, a4, a5, a6⟩ := p.at_ _ e1
    have e5 : z.off (s + 1) = z.o (z.idx s + 1) := by unfold Zn.off; rw [e2]
    have e6 : z.off s = z.o (z.idx s) := rfl
    rw [e5]
    rw [e6]
    generalize z.w (z.idx s + 1) = W at *
    generalize z.o (z.idx s) = A at *
    generalize z.o (z.idx s + 1) = B at *
    omega

theorem Plain.floorMin {z : Zn} (p : Plain z) (s : Int) (h0 : -9223372036854770000 ≤ s) : s % 60 = z.loc s % 60 ∧ z.loc (s - s % 60) = z.loc s - s % 60 := by
  have hb := p.bd s (by omega)
  have e0 : s % 60 = z.loc s % 60 := by unfold Zn.loc; omega
  refine ⟨e0, ?_⟩
  obtain ⟨r, hr⟩ : ∃ r, r = s % 60 := ⟨_, rfl⟩
  rw [← hr] at e0 ⊢
  have hb2 : 0 ≤ r ∧ r < 60 := by omega
  have e := p.step (s - r) r (by omega) hb2.1 (by omega)
  rw [show s - r + r = s by omega] at e
  unfold Zn.loc at *
  rcases e with ⟨_, e⟩ | ⟨e1, e2, e3, e4⟩
  · rw [e]; omega
  · exfalso
    obtain ⟨a1, a2, a3, a4, a5, a6⟩ := p.at_ _ e1
    have e5 : z.off s = z.o (z.idx (s - r) + 1) := by unfold Zn.off; rw [e2]
    rw [e5] at e0
    omega

end Go.Cal
namespace Go.Cal

theorem c0_eq : C0 = 86400 * 106751991073400 := by decide

theorem Plain.monoDay {z : Zn} (p : Plain z) (s : Int) (h0 : -9223372036854775808 ≤ s) : ∀ n : Nat, z.loc s / 86400 ≤ z.loc (s + (n : Int)) / 86400
  | 0 => by simp
  | n + 1 => by
    have a := p.monoDay s h0 n
    have e : s + ((n + 1 : Nat) : Int) = s + (n : Int) + 1 := by omega
    rw [e]
    rcases p.tick (s + (n : Int)) (by omega) with q | q
    · rw [q]; omega
    · omega

theorem Zn.ix_le (z : Zn) (s : Int) : ∀ k, z.ix s k ≤ k
  | 0 => Nat.le_refl _
  | k + 1 => by
    have := z.ix_le s k
    unfold Zn.ix
    split <;> omega
theorem Plain.bd' {z : Zn} (p : Plain z) (s : Int) : -86400 ≤ z.off s ∧ z.off s ≤ 86400 ∧ z.off s % 60 = 0 := p.offs _ (by have := p.pos; have := z.ix_le s (z.n - 1); unfold Zn.idx; omega)

structure At (z : Zn) (t : Int) (D : Nat) (s : Int) : Prop where
  loc : z.loc t = 86400 * (D : Int) + s - C0
  s0 : 0 ≤ s
  s1 : s < 86400
  big : 106740000000000 ≤ D

theorem At.lo {z : Zn} (p : Plain z) {t : Int} {D : Nat} {s : Int} (h : At z t D s) : -2000000000000000 ≤ t ∧ 86400 * (D : Int) + s - C0 - 86400 ≤ t ∧ t ≤ 86400 * (D : Int) + 172800 - C0 := by
  have hb := p.bd' t
  have e : z.loc t = t + z.off t := rfl
  have := h.loc; have := h.s1; have := h.s0; have := h.big
  have c := c0_eq
  omega

theorem Plain.at_any {z : Zn} (p : Plain z) (t : Int) (h : -1000000000000 ≤ t) : At z t (dayN z t) (sod z t) := by
  have hb := p.bd' t
  have e : z.loc t = t + z.off t := rfl
  have c := c0_eq
  have h1 : (dayN z t : Int) = (z.loc t + C0) / 86400 := by unfold dayN dayI; omega
  have h2 : sod z t = (z.loc t + C0) % 86400 := rfl
  exact ⟨by omega, by omega, by omega, by omega⟩

theorem At.read {z : Zn} {t : Int} {D : Nat} {s : Int} (h : At z t D s) : dayN z t = D ∧ sod z t = s := by
  have c := c0_eq
  have := h.loc; have := h.s0; have := h.s1
  constructor
  · unfold dayN dayI; omega
  · unfold sod; omega

theorem At.lt {z : Zn} (p : Plain z) {t t' : Int} {D D' : Nat} {s s' : Int} (h : At z t D s) (h' : At z t' D' s') (hD : D < D') : t < t' := by
  by_cases e : t < t'
  · exact e
  · exfalso
    have := p.monoDay t' (by have := h'.lo p; omega) (t - t').toNat
    rw [show t' + ((t - t').toNat : Int) = t by omega] at this
    have := h.loc; have := h'.loc; have := h.s0; have := h'.s0; have := h.s1; have := h'.s1
    have c := c0_eq
    omega

theorem Plain.dateU {z : Zn} (p : Plain z) {t0 : Int} {D : Nat} {s : Int} (h : At z t0 D s) : At z (dateU z (D : Int) s) D s := by
  have h1 := h.loc
  have h2 := h.lo p
  have c := c0_eq
  have := h.big; have := h.s0
  exact ⟨p.find (86400 * (D : Int) + s - C0) t0 (by omega) h1 (by omega), h.s0, h.s1, h.big⟩

theorem Plain.dateM {z : Zn} (p : Plain z) {D : Nat} (h : 106740000000000 ≤ D) : At z (Cal.dateU z (D : Int) 0) D 0 := by
  have c := c0_eq
  obtain ⟨s, _, hs⟩ := p.midnight ((D : Int) - 106751991073400) (by omega)
  exact p.dateU (t0 := s) ⟨by omega, by omega, by omega, h⟩

def Goes (D : Nat) (s : Int) (D' : Nat) (s' : Int) : Prop := (D' = D ∧ s' / 3600 = s / 3600) ∨ (D' = D ∧ s' % 3600 = 0) ∨ (D' = D + 1 ∧ s' = 0)

theorem At.hour {z : Zn} (p : Plain z) {t : Int} {D : Nat} {s : Int} (h : At z t D s) (hs : s % 3600 = 0) : ∃ D' s', At z (t + 3600) D' s' ∧ s' % 3600 = 0 ∧ (D' = D ∨ (D' = D + 1 ∧ s' = 0)) := by
  have c := c0_eq
  have h1 := h.loc; have h2 := h.s0; have h3 := h.s1; have h4 := h.big; have h5 := h.lo p
  obtain ⟨a, b⟩ := p.hour t (by omega) (by omega)
  obtain ⟨L, hL⟩ : ∃ L, L = z.loc (t + 3600) := ⟨_, rfl⟩
  rw [← hL] at a b
  rcases b with b | ⟨b, b2⟩
  · exact ⟨D, (L + C0) % 86400, ⟨by omega, by omega, by omega, h4⟩, by omega, .inl rfl⟩
  · exact ⟨D + 1, 0, ⟨by omega, by omega, by omega, by omega⟩, by omega, .inr ⟨rfl, rfl⟩⟩

theorem At.minute {z : Zn} (p : Plain z) {t : Int} {D : Nat} {s : Int} (h : At z t D s) (hs : s % 60 = 0) : ∃ D' s', At z (t + 60) D' s' ∧ s' % 60 = 0 ∧ ((D' = D ∧ s' / 3600 = s / 3600) ∨ (s' % 3600 = 0 ∧ (D' = D ∨ (D' = D + 1 ∧ s' = 0)))) := by
  have c := c0_eq
  have h1 := h.loc; have h2 := h.s0; have h3 := h.s1; have h4 := h.big; have h5 := h.lo p
  obtain ⟨a, a2, b⟩ := p.go60 t (by omega) (by omega)
  obtain ⟨L, hL⟩ : ∃ L, L = z.loc (t + 60) := ⟨_, rfl⟩
  rw [← hL] at a a2 b
  rcases b with b | ⟨b, b2⟩
  · refine ⟨D, (L + C0) % 86400, ⟨by omega, by omega, by omega, h4⟩, by omega, ?_⟩
    rcases a2 with a2 | a2
    · exact .inl ⟨rfl, by omega⟩
    · exact .inr ⟨by omega, .inl rfl⟩
  · exact ⟨D + 1, 0, ⟨by omega, by omega, by omega, by omega⟩, by omega, .inr ⟨by omega, .inr ⟨rfl, rfl⟩⟩⟩

theorem At.second {z : Zn} (p : Plain z) {t : Int} {D : Nat} {s : Int} (h : At z t D s) : ∃ D' s', At z (t + 1) D' s' ∧ ((D' = D ∧ s' / 60 = s / 60) ∨ (s' % 60 = 0 ∧ ((D' = D ∧ s' / 3600 = s / 3600) ∨ (s' % 3600 = 0 ∧ (D' = D ∨ (D' = D + 1 ∧ s' = 0)))))) := by
  have c := c0_eq
  have h1 := h.loc; have h2 := h.s0; have h3 := h.s1; have h4 := h.big; have h5 := h.lo p
  obtain ⟨a1, a2, b⟩ := p.go1 t (by omega)
  obtain ⟨L, hL⟩ : ∃ L, L = z.loc (t + 1) := ⟨_, rfl⟩
  rw [← hL] at a1 a2 b
  rcases b with b | ⟨b, b2⟩
  · refine ⟨D, (L + C0) % 86400, ⟨by omega, by omega, by omega, h4⟩, ?_⟩
    rcases a1 with a1 | a1
    · exact .inl ⟨rfl, by omega⟩
    · refine .inr ⟨by omega, ?_⟩
      rcases a2 with a2 | a2
      · exact .inl ⟨rfl, by omega⟩
      · exact .inr ⟨by omega, .inl rfl⟩
  · exact ⟨D + 1, 0, ⟨by omega, by omega, by omega, by omega⟩, .inr ⟨by omega, .inr ⟨by omega, .inr ⟨rfl, rfl⟩⟩⟩⟩

end Go.Cal
namespace Go.Cal

def wdD (D : Nat) : Nat := (D + 3) % 7
structure J (p : Par) (D : Nat) (s : Int) : Prop where
  mo : p.hMo (monD D) = true ∨ (dayD D = 1 ∧ s = 0)
  dy : p.hDy (dayD D) (wdD D) = true ∨ s = 0
  hr : p.hHr (s / 3600).toNat = true ∨ s % 3600 = 0
  mi : p.hMi (s % 3600 / 60).toNat = true ∨ s % 60 = 0

def Nd (p : Par) (D : Nat) (s : Int) : Ph → Prop
  | .wr => True
  | .mo => yearD D ≤ p.lim
  | .dy => yearD D ≤ p.lim ∧ p.hMo (monD D) = true
  | .hr => yearD D ≤ p.lim ∧ p.hMo (monD D) = true ∧ p.hDy (dayD D) (wdD D) = true
  | .mi => yearD D ≤ p.lim ∧ p.hMo (monD D) = true ∧ p.hDy (dayD D) (wdD D) = true ∧ p.hHr (s / 3600).toNat = true
  | .sc => yearD D ≤ p.lim ∧ p.hMo (monD D) = true ∧ p.hDy (dayD D) (wdD D) = true ∧ p.hHr (s / 3600).toNat = true ∧ p.hMi (s % 3600 / 60).toNat = true

def Good (p : Par) (t : Int) (ph : Ph) : Prop := ∃ D s, At p.z t D s ∧ J p D s ∧ D ≤ firstD (p.lim + 1) 1 ∧ Nd p D s ph

section
variable {p : Par} (hz : Plain p.z)
include hz

theorem month_on {t : Int} {D : Nat} (h : At p.z t D 0) (h1 : dayD D = 1) (hy : yearD D ≤ p.lim) : t < p.addMonth t ∧ Good p (p.addMonth t) (if mo p.z (p.addMonth t) = 1 then .wr else .mo) := by
  obtain ⟨e1, e2⟩ := h.read
  obtain ⟨m1, m2, _⟩ := mon_range D
  have hb := h.big
  have hyp := year_pos D (by omega)
  have hn := before_next D
  obtain ⟨D2, hD2⟩ : ∃ D2, D2 = firstD (nextY (yearD D) (monD D)) (nextM (monD D)) := ⟨_, rfl⟩
  have e : p.addMonth t = dateU p.z (D2 : Int) 0 := by
    unfold Par.addMonth yr mo dy
    rw [e1, e2, h1, hD2]
    simp
  have hA : At p.z (p.addMonth t) D2 0 := by rw [e]; exact hz.dateM (by rw [hD2]; omega)
  obtain ⟨r1, r2, r3⟩ := first_read (nextY (yearD D) (monD D)) (nextM (monD D)) (by unfold nextY; split <;> omega) (by unfold nextM; split <;> omega) (by unfold nextM; split <;> omega)
  rw [← hD2] at r1 r2 r3
  refine ⟨h.lt hz hA (by omega), D2, 0, hA, ⟨.inr ⟨r3, rfl⟩, .inr rfl, .inr rfl, .inr rfl⟩, by rw [hD2]; exact next_le D p.lim (by omega) hy, ?_⟩
  have e3 : mo p.z (p.addMonth t) = monD D2 := by unfold mo; rw [hA.read.1]
  rw [e3]
  by_cases e4 : monD D2 = 1
  · rw [if_pos e4]; exact True.intro
  · rw [if_neg e4]
    show yearD D2 ≤ p.lim
    rw [r1]
    rw [r2] at e4
    unfold nextY
    unfold nextM at e4
    split
    · rename_i q; rw [if_pos q] at e4; exact absurd rfl e4
    · exact hy

theorem day_on {t : Int} {D : Nat} (h : At p.z t D 0) (hm : p.hMo (monD D) = true) (hy : yearD D ≤ p.lim) : t < p.addDay t ∧ hr p.z (p.addDay t) = 0 ∧ Good p (p.addDay t) (if dy p.z (p.addDay t) = 1 then .wr else .dy) := by
  obtain ⟨e1, e2⟩ := h.read
  have hb := h.big
  have hf := first_day D
  have hn := before_next D
  have hd1 : 1 ≤ dayD D := by unfold dayD; omega
  have e : p.addDay t = dateU p.z ((D + 1 : Nat) : Int) 0 := by
    unfold Par.addDay yr mo dy
    rw [e1, e2]
    congr 1
    omega
  have hA : At p.z (p.addDay t) (D + 1) 0 := by rw [e]; exact hz.dateM (by omega)
  have hh : hr p.z (p.addDay t) = 0 := by unfold hr; rw [hA.read.2]; rfl
  have e3 : dy p.z (p.addDay t) = dayD (D + 1) := by unfold dy; rw [hA.read.1]
  rw [e3]
  have hle := next_le D p.lim (by omega) hy
  refine ⟨h.lt hz hA (by omega), hh, D + 1, 0, hA, ⟨?_, .inr rfl, .inr rfl, .inr rfl⟩, by omega, ?_⟩
  · rcases day_next D (by omega) with ⟨q, _⟩ | ⟨_, _, q, _⟩
    · exact .inr ⟨q, rfl⟩
    · rw [q]; exact .inl hm
  · rcases day_next D (by omega) with ⟨q, _⟩ | ⟨q0, q1, q2, _⟩
    · rw [if_pos q]; exact True.intro
    · rw [if_neg q0]
      exact ⟨by rw [q1]; exact hy, by rw [q2]; exact hm⟩

omit hz in
theorem keep {D D' : Nat} {s' : Int} (hb : 106740000000000 ≤ D) (hm : p.hMo (monD D) = true) (hd : p.hDy (dayD D) (wdD D) = true) (hy : yearD D ≤ p.lim) (h : D' = D ∨ (D' = D + 1 ∧ s' = 0)) :
    (p.hMo (monD D') = true ∨ (dayD D' = 1 ∧ s' = 0)) ∧ (p.hDy (dayD D') (wdD D') = true ∨ s' = 0) ∧ D' ≤ firstD (p.lim + 1) 1 := by
  have hl := year_lt D p.lim (by omega) hy
  rcases h with rfl | ⟨rfl, rfl⟩
  · exact ⟨.inl hm, .inl hd, by omega⟩
  · refine ⟨?_, .inr rfl, by omega⟩
    rcases day_next D (by omega) with ⟨q, _⟩ | ⟨_, _, q, _⟩
    · exact .inr ⟨q, rfl⟩
    · rw [q]; exact .inl hm

theorem hour_on {t : Int} {D : Nat} {s : Int} (h : At p.z t D s) (hs : s % 3600 = 0) (hm : p.hMo (monD D) = true) (hd : p.hDy (dayD D) (wdD D) = true) (hy : yearD D ≤ p.lim) : Good p (t + 3600) (if hr p.z (t + 3600) = 0 then .wr else .hr) := by
  obtain ⟨D', s', hA, h1, h2⟩ := h.hour hz hs
  obtain ⟨k1, k2, k3⟩ := keep h.big hm hd hy h2
  have e : hr p.z (t + 3600) = (s' / 3600).toNat := by unfold hr; rw [hA.read.2]
  rw [e]
  refine ⟨D', s', hA, ⟨k1, k2, .inr h1, .inr (by omega)⟩, k3, ?_⟩
  by_cases q : (s' / 3600).toNat = 0
  · rw [if_pos q]; exact True.intro
  · rw [if_neg q]
    rcases h2 with rfl | ⟨_, rfl⟩
    · exact ⟨hy, hm, hd⟩
    · exact absurd rfl q

theorem minute_on {t : Int} {D : Nat} {s : Int} (h : At p.z t D s) (hs : s % 60 = 0) (hm : p.hMo (monD D) = true) (hd : p.hDy (dayD D) (wdD D) = true) (hh : p.hHr (s / 3600).toNat = true) (hy : yearD D ≤ p.lim) : Good p (t + 60) (if mi p.z (t + 60) = 0 then .wr else .mi) := by
  obtain ⟨D', s', hA, h1, h2⟩ := h.minute hz hs
  have hk : D' = D ∨ (D' = D + 1 ∧ s' = 0) := by
    rcases h2 with ⟨q, _⟩ | ⟨_, q⟩
    · exact .inl q
    · exact q
  obtain ⟨k1, k2, k3⟩ := keep h.big hm hd hy hk
  have e : mi p.z (t + 60) = (s' % 3600 / 60).toNat := by unfold mi; rw [hA.read.2]
  rw [e]
  refine ⟨D', s', hA, ⟨k1, k2, ?_, .inr h1⟩, k3, ?_⟩
  · rcases h2 with ⟨_, q⟩ | ⟨q, _⟩
    · rw [q]; exact .inl hh
    · exact .inr q
  · by_cases q : (s' % 3600 / 60).toNat = 0
    · rw [if_pos q]; exact True.intro
    · rw [if_neg q]
      rcases h2 with ⟨rfl, e2⟩ | ⟨e2, _⟩
      · exact ⟨hy, hm, hd, by rw [e2]; exact hh⟩
      · exact absurd (by rw [e2]; rfl) q

theorem second_on {t : Int} {D : Nat} {s : Int} (h : At p.z t D s) (hm : p.hMo (monD D) = true) (hd : p.hDy (dayD D) (wdD D) = true) (hh : p.hHr (s / 3600).toNat = true) (hi : p.hMi (s % 3600 / 60).toNat = true) (hy : yearD D ≤ p.lim) : Good p (t + 1) (if sc p.z (t + 1) = 0 then .wr else .sc) := by
  obtain ⟨D', s', hA, h2⟩ := h.second hz
  have b0 := h.s0
  have b1 := hA.s0
  have hk : D' = D ∨ (D' = D + 1 ∧ s' = 0) := by
    rcases h2 with ⟨q, _⟩ | ⟨_, ⟨q, _⟩ | ⟨_, q⟩⟩
    · exact .inl q
    · exact .inl q
    · exact q
  obtain ⟨k1, k2, k3⟩ := keep h.big hm hd hy hk
  have e : sc p.z (t + 1) = (s' % 60).toNat := by unfold sc; rw [hA.read.2]
  rw [e]
  refine ⟨D', s', hA, ⟨k1, k2, ?_, ?_⟩, k3, ?_⟩
  · rcases h2 with ⟨_, q⟩ | ⟨_, ⟨_, q⟩ | ⟨q, _⟩⟩
    · rw [show s' / 3600 = s / 3600 by omega]; exact .inl hh
    · rw [q]; exact .inl hh
    · exact .inr q
  · rcases h2 with ⟨_, q⟩ | ⟨q, _⟩
    · rw [show s' % 3600 / 60 = s % 3600 / 60 by omega]; exact .inl hi
    · exact .inr q
  · by_cases q : (s' % 60).toNat = 0
    · rw [if_pos q]; exact True.intro
    · rw [if_neg q]
      rcases h2 with ⟨rfl, e2⟩ | ⟨e2, _⟩
      · exact ⟨hy, hm, hd, by rw [show s' / 3600 = s / 3600 by omega]; exact hh, by rw [show s' % 3600 / 60 = s % 3600 / 60 by omega]; exact hi⟩
      · exact absurd (by rw [e2]; rfl) q

def Ph.rank : Ph → Nat
  | .wr => 6 | .mo => 5 | .dy => 4 | .hr => 3 | .mi => 2 | .sc => 1

omit hz in
theorem top_le {t : Int} (hz : Plain p.z) {ph : Ph} (h : Good p t ph) : t ≤ 86400 * (firstD (p.lim + 1) 1 : Int) + 172800 - C0 := by
  obtain ⟨D, s, hA, _, hD, _⟩ := h
  have := (hA.lo hz).2.2
  omega

theorem good_ends (B : Int) (hB : B = 86400 * (firstD (p.lim + 1) 1 : Int) + 172800 - C0) (n : Nat) : ∀ (t : Int) (ph : Ph), Good p t ph → (8 * (B - t) + ph.rank).toNat ≤ n → p.Ends B ⟨ph, t, true⟩ := by
  induction n with
  | zero =>
    intro t ph hg hn
    exfalso
    have := top_le hz hg
    rw [← hB] at this
    have : 1 ≤ ph.rank := by cases ph <;> decide
    omega
  | succ n ih =>
    intro t ph hg hn
    have ht := top_le hz hg
    rw [← hB] at ht
    have lo : -2000000000000000 ≤ t := by
      obtain ⟨D, s, hA, _⟩ := hg
      exact (hA.lo hz).1
    have on : ∀ (t' : Int) (ph' : Ph), Good p t' ph' → t < t' → p.Ends B ⟨ph', t', true⟩ := fun t' ph' hg' hl => ih t' ph' hg' (by
      have h6 : ph'.rank ≤ 6 := by cases ph' <;> decide
      have h1 : 1 ≤ ph.rank := by cases ph <;> decide
      have := top_le hz hg'
      rw [← hB] at this
      omega)
    have same : ∀ (ph' : Ph), Good p t ph' → ph'.rank < ph.rank → p.Ends B ⟨ph', t, true⟩ := fun ph' hg' hl => ih t ph' hg' (by omega)
    obtain ⟨D, s, hA, hJ, hD, hN⟩ := hg
    obtain ⟨e1, e2⟩ := hA.read
    have ey : yr p.z t = yearD D := by unfold yr; rw [e1]
    have em : mo p.z t = monD D := by unfold mo; rw [e1]
    have ed : dy p.z t = dayD D := by unfold dy; rw [e1]
    have ew : wd p.z t = wdD D := by unfold wd wdD; rw [e1]
    have eh : hr p.z t = (s / 3600).toNat := by unfold hr; rw [e2]
    have ei : mi p.z t = (s % 3600 / 60).toNat := by unfold mi; rw [e2]
    cases ph with
    | wr =>
      by_cases hy : p.lim < yr p.z t
      · exact .of_end lo ht (r := none) (by unfold Par.step; simp only [if_pos hy])
      · refine .of_step lo ht True.intro (s' := ⟨.mo, t, true⟩) (by unfold Par.step; simp only [if_neg hy]) (same .mo ⟨D, s, hA, hJ, hD, ?_⟩ (by decide))
        show yearD D ≤ p.lim
        omega
    | mo =>
      have hy : yearD D ≤ p.lim := hN
      cases hm : p.hMo (mo p.z t) with
      | true => exact .of_step lo ht True.intro (s' := ⟨.dy, t, true⟩) (by unfold Par.step; simp only [hm, if_true]) (same .dy ⟨D, s, hA, hJ, hD, hy, by rw [← em]; exact hm⟩ (by decide))
      | false =>
        have h0 : dayD D = 1 ∧ s = 0 := by
          rcases hJ.mo with q | q
          · rw [← em, hm] at q; cases q
          · exact q
        obtain ⟨h1, rfl⟩ := h0
        obtain ⟨a, b⟩ := month_on hz hA h1 hy
        exact .of_step lo ht True.intro (by unfold Par.step; simp only [hm, if_true]; rfl) (on _ _ b a)
    | dy =>
      obtain ⟨hy, hm⟩ : yearD D ≤ p.lim ∧ p.hMo (monD D) = true := hN
      cases hd : p.hDy (dy p.z t) (wd p.z t) with
      | true => exact .of_step lo ht (fun q => by rw [hd] at q; cases q) (s' := ⟨.hr, t, true⟩) (by unfold Par.step; simp only [hd, if_true]) (same .hr ⟨D, s, hA, hJ, hD, hy, hm, by rw [← ed, ← ew]; exact hd⟩ (by decide))
      | false =>
        have h0 : s = 0 := by
          rcases hJ.dy with q | q
          · rw [← ed, ← ew, hd] at q; cases q
          · exact q
        subst h0
        obtain ⟨a, c, b⟩ := day_on hz hA hm hy
        exact .of_step lo ht (fun _ => c) (by unfold Par.step; simp only [hd, if_true]; rfl) (on _ _ b a)
    | hr =>
      obtain ⟨hy, hm, hd⟩ : yearD D ≤ p.lim ∧ p.hMo (monD D) = true ∧ p.hDy (dayD D) (wdD D) = true := hN
      cases hh : p.hHr (hr p.z t) with
      | true => exact .of_step lo ht True.intro (s' := ⟨.mi, t, true⟩) (by unfold Par.step; simp only [hh, if_true]) (same .mi ⟨D, s, hA, hJ, hD, hy, hm, hd, by rw [← eh]; exact hh⟩ (by decide))
      | false =>
        have h0 : s % 3600 = 0 := by
          rcases hJ.hr with q | q
          · rw [← eh, hh] at q; cases q
          · exact q
        exact .of_step lo ht True.intro (by unfold Par.step; simp only [hh, if_true]; rfl) (on _ _ (hour_on hz hA h0 hm hd hy) (by omega))
    | mi =>
      obtain ⟨hy, hm, hd, hh⟩ : yearD D ≤ p.lim ∧ p.hMo (monD D) = true ∧ p.hDy (dayD D) (wdD D) = true ∧ p.hHr (s / 3600).toNat = true := hN
      cases hi : p.hMi (mi p.z t) with
      | true => exact .of_step lo ht True.intro (s' := ⟨.sc, t, true⟩) (by unfold Par.step; simp only [hi, if_true]) (same .sc ⟨D, s, hA, hJ, hD, hy, hm, hd, hh, by rw [← ei]; exact hi⟩ (by decide))
      | false =>
        have h0 : s % 60 = 0 := by
          rcases hJ.mi with q | q
          · rw [← ei, hi] at q; cases q
          · exact q
        exact .of_step lo ht True.intro (by unfold Par.step; simp only [hi, if_true]; rfl) (on _ _ (minute_on hz hA h0 hm hd hh hy) (by omega))
    | sc =>
      obtain ⟨hy, hm, hd, hh, hi⟩ : yearD D ≤ p.lim ∧ p.hMo (monD D) = true ∧ p.hDy (dayD D) (wdD D) = true ∧ p.hHr (s / 3600).toNat = true ∧ p.hMi (s % 3600 / 60).toNat = true := hN
      cases hs : p.hSc (sc p.z t) with
      | true => exact .of_end lo ht (r := some t) (by unfold Par.step; simp only [hs, if_true])
      | false => exact .of_step lo ht True.intro (by unfold Par.step; simp only [hs]; rfl) (on _ _ (second_on hz hA hm hd hh hi hy) (by omega))

theorem good_end {t : Int} {ph : Ph} (h : Good p t ph) : p.Ends (86400 * (firstD (p.lim + 1) 1 : Int) + 172800 - C0) ⟨ph, t, true⟩ := good_ends hz _ rfl _ t ph h (Nat.le_refl _)

end
end Go.Cal
