/- Plain law: two fractions that are equal have the same lowest terms; the program's fraction of a hexadecimal float and the reference's are equal. -/
import Derived.RowKit3
set_option linter.unusedVariables false
set_option linter.unusedSimpArgs false
namespace Go.Proofs.YtgpoplfgngiilaaGreatDoor.Lw

theorem lowest_aux {N D N' D' : Nat} (hD : 0 < D) (hD' : 0 < D') (h : N * D' = N' * D) : D / Nat.gcd N D ∣ D' / Nat.gcd N' D' := by
  have hg : 0 < Nat.gcd N D := Nat.gcd_pos_of_pos_right _ hD
  have hg' : 0 < Nat.gcd N' D' := Nat.gcd_pos_of_pos_right _ hD'
  obtain ⟨n, hn⟩ := Nat.gcd_dvd_left N D
  obtain ⟨d, hd⟩ := Nat.gcd_dvd_right N D
  obtain ⟨n', hn'⟩ := Nat.gcd_dvd_left N' D'
  obtain ⟨d', hd'⟩ := Nat.gcd_dvd_right N' D'
  have hc : Nat.Coprime n d := by
    have := Nat.coprime_div_gcd_div_gcd hg
    rwa [show N / Nat.gcd N D = n from by rw [Nat.div_eq_of_eq_mul_right hg hn], show D / Nat.gcd N D = d from by rw [Nat.div_eq_of_eq_mul_right hg hd]] at this
  rw [show D / Nat.gcd N D = d from by rw [Nat.div_eq_of_eq_mul_right hg hd], show D' / Nat.gcd N' D' = d' from by rw [Nat.div_eq_of_eq_mul_right hg' hd']]
  have e : n * d' = n' * d := by
    have h1 : (Nat.gcd N D * Nat.gcd N' D') * (n * d') = (Nat.gcd N D * Nat.gcd N' D') * (n' * d) := by
      have h2 : (Nat.gcd N D * n) * (Nat.gcd N' D' * d') = (Nat.gcd N' D' * n') * (Nat.gcd N D * d) := by rw [← hn, ← hd, ← hn', ← hd']; exact h
      generalize Nat.gcd N D = g at h2 ⊢
      generalize Nat.gcd N' D' = g' at h2 ⊢
      grind
    exact Nat.eq_of_mul_eq_mul_left (Nat.mul_pos hg hg') h1
  exact Nat.Coprime.dvd_of_dvd_mul_left hc.symm ⟨n', by rw [e, Nat.mul_comm]⟩

theorem lowest {N D N' D' : Nat} (hD : 0 < D) (hD' : 0 < D') (h : N * D' = N' * D) : N / Nat.gcd N D = N' / Nat.gcd N' D' ∧ D / Nat.gcd N D = D' / Nat.gcd N' D' := by
  have hg : 0 < Nat.gcd N D := Nat.gcd_pos_of_pos_right _ hD
  have hg' : 0 < Nat.gcd N' D' := Nat.gcd_pos_of_pos_right _ hD'
  have hd : D / Nat.gcd N D = D' / Nat.gcd N' D' := Nat.dvd_antisymm (lowest_aux hD hD' h) (lowest_aux hD' hD h.symm)
  refine ⟨?_, hd⟩
  have e1 : Nat.gcd N D * (D / Nat.gcd N D) = D := Nat.mul_div_cancel' (Nat.gcd_dvd_right N D)
  have e2 : Nat.gcd N' D' * (D' / Nat.gcd N' D') = D' := Nat.mul_div_cancel' (Nat.gcd_dvd_right N' D')
  have e3 : Nat.gcd N D * (N / Nat.gcd N D) = N := Nat.mul_div_cancel' (Nat.gcd_dvd_left N D)
  have e4 : Nat.gcd N' D' * (N' / Nat.gcd N' D') = N' := Nat.mul_div_cancel' (Nat.gcd_dvd_left N' D')
  have hp : 0 < D / Nat.gcd N D := by
    rcases Nat.eq_zero_or_pos (D / Nat.gcd N D) with h0 | h0
    · rw [h0, Nat.mul_zero] at e1; omega
    · exact h0
  rw [hd] at e1 hp
  generalize N / Nat.gcd N D = n at *
  generalize N' / Nat.gcd N' D' = n' at *
  generalize D' / Nat.gcd N' D' = d at *
  generalize Nat.gcd N D = g at *
  generalize Nat.gcd N' D' = g' at *
  subst e1 e2 e3 e4
  have h5 : (g * g' * d) * n = (g * g' * d) * n' := by grind
  exact Nat.eq_of_mul_eq_mul_left (Nat.mul_pos (Nat.mul_pos hg hg') hp) h5

/-- The program's fraction and the reference's. -/
theorem same_frac (m p a b c d n3 d3 g : Nat) (hab : a + 4 * p + d = b + c) (hn : g * n3 = 2 ^ b) (hd : g * d3 = 16 ^ p * 2 ^ d) :
    (m * 2 ^ a) * d3 = (m * n3) * 2 ^ c := by
  have hg : 0 < g := by
    rcases Nat.eq_zero_or_pos g with h | h
    · subst h
      have := Nat.pow_pos (n := b) (show 0 < 2 by omega)
      omega
    · exact h
  have h16 : 16 ^ p = 2 ^ (4 * p) := by rw [Nat.pow_mul]
  refine Nat.eq_of_mul_eq_mul_left hg ?_
  have e1 : g * (m * 2 ^ a * d3) = m * 2 ^ a * (g * d3) := by grind
  have e2 : g * (m * n3 * 2 ^ c) = m * (g * n3) * 2 ^ c := by grind
  rw [e1, e2, hn, hd, h16, ← Nat.pow_add, Nat.mul_assoc, Nat.mul_assoc, ← Nat.pow_add, ← Nat.pow_add]
  congr 2
  omega
end Go.Proofs.YtgpoplfgngiilaaGreatDoor.Lw
