import PyProof.Rows.All
import Wide.All
import OpenK.AllK
import Wide.FinOn
import Lean
import PySem.Challenge.RW_dm0271_10
set_option Elab.async false
set_option maxRecDepth 100000
set_option maxHeartbeats 20000000
set_option linter.unusedVariables false
set_option rowWalk.seconds 0
section
namespace Mine
/-! bounds of the logarithm without a logarithm: lists of factors -/
theorem rlt_or_le (a b : Rat) : a < b ∨ b ≤ a := by
  by_cases h : a < b
  · exact Or.inl h
  · exact Or.inr (Rat.not_lt.mp h)
theorem rmul_pow (a b : Rat) : ∀ n : Nat, (a * b) ^ n = a ^ n * b ^ n
  | 0 => by simp only [Rat.pow_zero, Rat.mul_one]
  | n + 1 => by rw [Rat.pow_succ, Rat.pow_succ, Rat.pow_succ, rmul_pow a b n]; grind
theorem rsq_nonneg (x : Rat) : 0 ≤ x * x := by
  rcases rlt_or_le x 0 with h | h
  · have := Rat.mul_nonneg (show 0 ≤ -x by grind) (show 0 ≤ -x by grind)
    grind
  · exact Rat.mul_nonneg h h
theorem fld1 {n B A t : Rat} (hA : 0 < A) (e2 : (n + 1) * B = n * A + t) : 1 + (n + 1) * (B / A - 1) = t / A := by
  have h : A ≠ 0 := by grind
  have : (n + 1) * (B / A - 1) = ((n + 1) * B - (n + 1) * A) / A := by grind
  rw [this, e2]
  grind
theorem fld2 {t A P : Rat} (hA : 0 < A) : t / A * (P * A) = t * P := by
  have h : A ≠ 0 := by grind
  grind
theorem fld3 {A B : Rat} (hA : 0 < A) : B / A * A = B := by
  have h : A ≠ 0 := by grind
  grind
def pr : List Rat → Rat
  | [] => 1
  | t :: r => t * pr r
def sm : List Rat → Rat
  | [] => 0
  | t :: r => (t - 1) + sm r
theorem pr_append (a b : List Rat) : pr (a ++ b) = pr a * pr b := by
  induction a with
  | nil => simp [pr, Rat.one_mul]
  | cons t r ih => simp only [List.cons_append, pr, ih]; grind
theorem sm_append (a b : List Rat) : sm (a ++ b) = sm a + sm b := by
  induction a with
  | nil => simp [sm, Rat.zero_add]
  | cons t r ih => simp only [List.cons_append, sm, ih]; grind
theorem pr_pos {a : List Rat} (h : ∀ t ∈ a, 0 < t) : 0 < pr a := by
  induction a with
  | nil => simp only [pr]; decide
  | cons t r ih =>
    simp only [pr]
    exact Rat.mul_pos (h t (by simp)) (ih fun u hu => h u (by simp [hu]))
theorem bern (x : Rat) (hx : -1 ≤ x) : ∀ n : Nat, 1 + n * x ≤ (1 + x) ^ n
  | 0 => by simp only [Rat.pow_zero]; grind
  | n + 1 => by
    have ih := bern x hx n
    have h1 : 0 ≤ ((1 + x) ^ n - (1 + n * x)) * (1 + x) := Rat.mul_nonneg (by grind) (by grind)
    have h2 : 0 ≤ (n : Rat) * (x * x) := by
      exact Rat.mul_nonneg (by exact Rat.natCast_nonneg) (rsq_nonneg x)
    rw [Rat.pow_succ]
    push_cast
    grind
theorem rpow_pos {x : Rat} (h : 0 < x) (n : Nat) : 0 < x ^ n := Rat.pow_pos h
/-- the mean of a list, to its length, is no less than the product -/
theorem amgm1 (a : List Rat) (h : ∀ t ∈ a, 0 < t) (hn : a ≠ []) : pr a ≤ (1 + sm a / a.length) ^ a.length ∧ 0 < 1 + sm a / a.length := by
  induction a with
  | nil => exact absurd rfl hn
  | cons t r ih =>
    by_cases hr : r = []
    · subst hr
      simp only [pr, sm, List.length_cons, List.length_nil, Rat.pow_succ, Rat.pow_zero]
      have := h t (by simp)
      push_cast
      constructor <;> grind
    · obtain ⟨ih1, ih2⟩ := ih (fun u hu => h u (by simp [hu])) hr
      have ht := h t (by simp)
      have hl : 0 < r.length := by
        cases r with
        | nil => exact absurd rfl hr
        | cons => simp
      have hlq : (0 : Rat) < r.length := by exact_mod_cast hl
      -- A: the mean of r, B: the mean of all; (n + 1) B = n A + t
      generalize hA : 1 + sm r / r.length = A at *
      have e1 : sm r = r.length * (A - 1) := by
        rw [← hA]; grind
      simp only [pr, sm, List.length_cons]
      generalize hB : 1 + (t - 1 + sm r) / ((r.length + 1 : Nat) : Rat) = B
      have hnq : (0 : Rat) < ((r.length + 1 : Nat) : Rat) := by push_cast; grind
      have e2 : ((r.length + 1 : Nat) : Rat) * B = r.length * A + t := by
        rw [← hB, e1]
        have : ((r.length + 1 : Nat) : Rat) * (1 + (t - 1 + r.length * (A - 1)) / ((r.length + 1 : Nat) : Rat)) = ((r.length + 1 : Nat) : Rat) + (t - 1 + r.length * (A - 1)) := by grind
        rw [this]; push_cast; grind
      have hB0 : 0 < B := by
        have h1 : 0 < r.length * A + t := by
          have := Rat.mul_pos hlq ih2; grind
        rw [← e2] at h1
        rcases rlt_or_le 0 B with h2 | h2
        · exact h2
        · exfalso
          have := Rat.mul_nonneg (Rat.le_of_lt hnq) (show 0 ≤ -B by grind)
          grind
      refine ⟨?_, hB0⟩
      -- (B / A)^(n+1) ≥ 1 + (n+1) (B/A - 1) = t / A
      have b1 := bern (B / A - 1) (by
        have : 0 < B / A := by rw [Rat.div_def]; exact Rat.mul_pos hB0 (Rat.inv_pos.mpr ih2)
        grind) (r.length + 1)
      have e3 : 1 + ((r.length + 1 : Nat) : Rat) * (B / A - 1) = t / A := by
        push_cast at e2 ⊢
        exact fld1 ih2 e2
      rw [e3, show 1 + (B / A - 1) = B / A by grind] at b1
      have hAn := rpow_pos ih2 r.length
      have hAn1 := rpow_pos ih2 (r.length + 1)
      have e4 : (B / A) ^ (r.length + 1) * A ^ (r.length + 1) = B ^ (r.length + 1) := by
        rw [← rmul_pow, fld3 ih2]
      have b2 := Rat.mul_le_mul_of_nonneg_right b1 (Rat.le_of_lt hAn1)
      rw [e4] at b2
      have e5 : t / A * A ^ (r.length + 1) = t * A ^ r.length := by rw [Rat.pow_succ]; exact fld2 ih2
      rw [e5] at b2
      have b3 := Rat.mul_le_mul_of_nonneg_left ih1 (Rat.le_of_lt ht)
      grind
theorem amgm (a : List Rat) (h : ∀ t ∈ a, 0 < t) (h1 : 1 ≤ pr a) : 0 ≤ sm a := by
  by_cases hr : a = []
  · subst hr; simp [sm]
  · obtain ⟨h2, h3⟩ := amgm1 a h hr
    have hl : 0 < a.length := by
      cases a with
      | nil => exact absurd rfl hr
      | cons => simp
    have hlq : (0 : Rat) < a.length := by exact_mod_cast hl
    rcases rlt_or_le (sm a) 0 with h4 | h4
    · exfalso
      have h5 : 1 + sm a / a.length < 1 := by
        have : sm a / a.length < 0 := by
          rw [Rat.div_lt_iff hlq]; grind
        grind
      have h6 : (1 + sm a / a.length) ^ a.length < 1 := by
        generalize 1 + sm a / (a.length : Rat) = A at *
        have key : ∀ n : Nat, 0 < n → A ^ n < 1 := by
          intro n
          induction n with
          | zero => intro h; omega
          | succ n ih =>
            intro _
            rcases Nat.eq_zero_or_pos n with e | e
            · subst e; rw [Rat.pow_succ, Rat.pow_zero]; grind
            · have := ih e
              have hp := rpow_pos h3 n
              have h7 := Rat.mul_lt_mul_of_pos_left h5 hp
              rw [Rat.pow_succ]; grind
        exact key _ hl
      grind
    · exact h4

/-- r ≤ log q, up to every e -/
def Lg (r q : Rat) : Prop := ∀ e : Rat, 0 < e → ∃ a : List Rat, (∀ t ∈ a, 0 < t) ∧ 1 ≤ q * pr a ∧ r - e ≤ -sm a
/-- log q ≤ r, up to every e -/
def Ug (r q : Rat) : Prop := ∀ e : Rat, 0 < e → ∃ a : List Rat, (∀ t ∈ a, 0 < t) ∧ q ≤ pr a ∧ sm a ≤ r + e
theorem Lg.le {r s q : Rat} (h : Lg r q) (k : Ug s q) : r ≤ s := by
  rcases rlt_or_le s r with h1 | h1
  · exfalso
    obtain ⟨a, a1, a2, a3⟩ := h ((r - s) / 4) (by grind)
    obtain ⟨b, b1, b2, b3⟩ := k ((r - s) / 4) (by grind)
    have h2 : 1 ≤ pr (a ++ b) := by
      rw [pr_append]
      have := Rat.mul_le_mul_of_nonneg_right b2 (Rat.le_of_lt (pr_pos a1))
      grind
    have h3 := amgm (a ++ b) (by intro t ht; rcases List.mem_append.mp ht with h | h; exact a1 t h; exact b1 t h) h2
    rw [sm_append] at h3
    grind
  · exact h1
theorem Lg.add {r s q t : Rat} (h : Lg r q) (k : Lg s t) : Lg (r + s) (q * t) := by
  intro e he
  obtain ⟨a, a1, a2, a3⟩ := h (e / 2) (by grind)
  obtain ⟨b, b1, b2, b3⟩ := k (e / 2) (by grind)
  refine ⟨a ++ b, by intro t ht; rcases List.mem_append.mp ht with h | h; exact a1 t h; exact b1 t h, ?_, ?_⟩
  · rw [pr_append]
    have h1 : 0 ≤ t * pr b - 1 := by grind
    have h2 : 0 ≤ q * pr a - 1 := by grind
    have := Rat.mul_nonneg h1 h2
    grind
  · rw [sm_append]; grind
theorem Ug.add {r s q t : Rat} (ht : 0 < t) (h : Ug r q) (k : Ug s t) : Ug (r + s) (q * t) := by
  intro e he
  obtain ⟨a, a1, a2, a3⟩ := h (e / 2) (by grind)
  obtain ⟨b, b1, b2, b3⟩ := k (e / 2) (by grind)
  refine ⟨a ++ b, by intro t ht; rcases List.mem_append.mp ht with h | h; exact a1 t h; exact b1 t h, ?_, ?_⟩
  · rw [pr_append]
    have h1 := Rat.mul_nonneg (show 0 ≤ pr a - q by grind) (Rat.le_of_lt ht)
    have h2 := Rat.mul_nonneg (Rat.le_of_lt (pr_pos a1)) (show 0 ≤ pr b - t by grind)
    grind
  · rw [sm_append]; grind
theorem Lg.mono {r s q t : Rat} (h : Lg r q) (hs : s ≤ r) (hq : q ≤ t) : Lg s t := by
  intro e he
  obtain ⟨a, a1, a2, a3⟩ := h e he
  refine ⟨a, a1, ?_, by grind⟩
  have := Rat.mul_le_mul_of_nonneg_right hq (Rat.le_of_lt (pr_pos a1))
  grind
theorem Ug.mono {r s q t : Rat} (h : Ug r q) (hs : r ≤ s) (hq : t ≤ q) : Ug s t := by
  intro e he
  obtain ⟨a, a1, a2, a3⟩ := h e he
  exact ⟨a, a1, by grind, by grind⟩
theorem Lg.lim {r q : Rat} (h : ∀ e : Rat, 0 < e → Lg (r - e) q) : Lg r q := by
  intro e he
  obtain ⟨a, a1, a2, a3⟩ := h (e / 2) (by grind) (e / 2) (by grind)
  exact ⟨a, a1, a2, by grind⟩
theorem Ug.lim {r q : Rat} (h : ∀ e : Rat, 0 < e → Ug (r + e) q) : Ug r q := by
  intro e he
  obtain ⟨a, a1, a2, a3⟩ := h (e / 2) (by grind) (e / 2) (by grind)
  exact ⟨a, a1, a2, by grind⟩
/-- 1 - t ≤ log q where 1 / t ≤ q -/
theorem Lg.basic {t q : Rat} (ht : 0 < t) (h : 1 ≤ q * t) : Lg (1 - t) q := by
  intro e he
  refine ⟨[t], by simpa using ht, by simpa [pr, Rat.mul_one] using h, ?_⟩
  simp only [sm]; grind
theorem Ug.basic {q : Rat} (hq : 0 < q) : Ug (q - 1) q := by
  intro e he
  refine ⟨[q], by simpa using hq, ?_, ?_⟩
  · simp only [pr]; grind
  · simp only [sm]; grind
theorem Lg.zero : Lg 0 1 := (Lg.basic (t := 1) (q := 1) (by grind) (by grind)).mono (by grind) (by grind)
theorem Ug.zero : Ug 0 1 := (Ug.basic (q := 1) (by grind)).mono (by grind) (by grind)
theorem Lg.pow {r q : Rat} (h : Lg r q) : ∀ n : Nat, Lg (n * r) (q ^ n)
  | 0 => Lg.zero.mono (by simp [Rat.zero_mul]) (by simp [Rat.pow_zero])
  | n + 1 => by
    refine (Lg.add (Lg.pow h n) h).mono ?_ ?_
    · push_cast; grind
    · rw [Rat.pow_succ]; grind
theorem Ug.pow {r q : Rat} (hq : 0 < q) (h : Ug r q) : ∀ n : Nat, Ug (n * r) (q ^ n)
  | 0 => Ug.zero.mono (by simp [Rat.zero_mul]) (by simp [Rat.pow_zero])
  | n + 1 => by
    refine (Ug.add hq (Ug.pow hq h n) h).mono ?_ ?_
    · push_cast; grind
    · rw [Rat.pow_succ]; grind
end Mine

end
section
namespace Mine
theorem Lg.inv {r q : Rat} (hq : 0 < q) (h : Lg r q) : Ug (-r) q⁻¹ := by
  intro e he
  obtain ⟨a, a1, a2, a3⟩ := h e he
  refine ⟨a, a1, ?_, by grind⟩
  have h1 := Rat.mul_le_mul_of_nonneg_right a2 (Rat.le_of_lt (Rat.inv_pos.mpr hq))
  have h2 : q * pr a * q⁻¹ = pr a := by grind
  grind
theorem Ug.inv {r q : Rat} (hq : 0 < q) (h : Ug r q) : Lg (-r) q⁻¹ := by
  intro e he
  obtain ⟨a, a1, a2, a3⟩ := h e he
  refine ⟨a, a1, ?_, by grind⟩
  have h1 := Rat.mul_le_mul_of_nonneg_right a2 (Rat.le_of_lt (Rat.inv_pos.mpr hq))
  have h2 : q * q⁻¹ = 1 := by grind
  grind
theorem arch (x : Rat) : ∃ n : Nat, 0 < n ∧ x ≤ n := by
  refine ⟨(x.floor + 1).toNat + 1, by omega, ?_⟩
  have h := Rat.lt_floor (x := x)
  have h2 : x.floor + 1 ≤ (((x.floor + 1).toNat + 1 : Nat) : Int) := by omega
  have h3 : ((x.floor + 1 : Int) : Rat) ≤ ((((x.floor + 1).toNat + 1 : Nat) : Int) : Rat) := Rat.intCast_le_intCast.mpr h2
  rw [Rat.intCast_natCast] at h3
  have h4 : ((x.floor + 1 : Int) : Rat) = (x.floor : Rat) + 1 := by push_cast; rfl
  grind
theorem rdiv_pos {a b : Rat} (ha : 0 < a) (hb : 0 < b) : 0 < a / b := by
  rw [Rat.div_def]; exact Rat.mul_pos ha (Rat.inv_pos.mpr hb)
theorem rdiv_mul {a b c : Rat} (hb : 0 < b) : a / b * (b / c) = a / c := by
  have : b ≠ 0 := by grind
  by_cases hc : c = 0
  · subst hc; simp [Rat.div_def]
  · grind
/-- the step's size -/
theorem small_step {C d e : Rat} (hC : 0 ≤ C) (he : 0 < e) : ∃ n : Nat, 0 < n ∧ n * (C * ((d / n) * (d / n))) ≤ e := by
  obtain ⟨n, hn, h⟩ := arch (C * (d * d) / e)
  refine ⟨n, hn, ?_⟩
  have hq : (0 : Rat) < n := by exact_mod_cast hn
  have e1 : n * (C * ((d / n) * (d / n))) = C * (d * d) / n := by
    have : (n : Rat) ≠ 0 := by grind
    grind
  rw [e1]
  have h1 : C * (d * d) / e * e = C * (d * d) := fld3 he
  have h2 := Rat.mul_le_mul_of_nonneg_right h (Rat.le_of_lt he)
  rw [h1] at h2
  rcases rlt_or_le e (C * (d * d) / n) with h3 | h3
  · exfalso
    have h4 := Rat.mul_lt_mul_of_pos_right h3 hq
    rw [fld3 hq] at h4
    grind
  · exact h3
section
variable {F G : Rat → Rat} {a b C : Rat}
theorem pt_in {a b : Rat} {n i : Nat} (hab : a ≤ b) (hn : 0 < n) (hi : i ≤ n) : a ≤ a + i * ((b - a) / n) ∧ a + i * ((b - a) / n) ≤ b := by
  have hq : (0 : Rat) < n := by exact_mod_cast hn
  have hi0 : (0 : Rat) ≤ i := Rat.natCast_nonneg
  have hin : (i : Rat) ≤ n := by exact_mod_cast hi
  have hd : 0 ≤ (b - a) / n := by
    rw [Rat.div_def]; exact Rat.mul_nonneg (by grind) (Rat.le_of_lt (Rat.inv_pos.mpr hq))
  have h1 := Rat.mul_nonneg hi0 hd
  have h2 := Rat.mul_nonneg (show (0 : Rat) ≤ n - i by grind) hd
  have h3 : n * ((b - a) / n) = b - a := by
    have : (n : Rat) ≠ 0 := by grind
    grind
  constructor
  · grind
  · grind
theorem Lg.along (hab : a ≤ b) (hC : 0 ≤ C) (hG : ∀ x, a ≤ x → x ≤ b → 0 < G x)
    (h : ∀ x y, a ≤ x → x ≤ y → y ≤ b → F y - F x ≤ 1 - G x / G y + C * ((y - x) * (y - x))) : Lg (F b - F a) (G b / G a) := by
  refine Lg.lim fun e he => ?_
  obtain ⟨n, hn, hs⟩ := small_step (d := b - a) hC he
  have hq : (0 : Rat) < n := by exact_mod_cast hn
  have ha0 := hG a Rat.le_refl hab
  have key : ∀ i : Nat, i ≤ n → Lg (F (a + i * ((b - a) / n)) - F a - i * (C * (((b - a) / n) * ((b - a) / n)))) (G (a + i * ((b - a) / n)) / G a) := by
    intro i
    induction i with
    | zero =>
      intro _
      have e0 : a + ((0 : Nat) : Rat) * ((b - a) / n) = a := by push_cast; grind
      rw [e0]
      refine Lg.zero.mono ?_ ?_
      · push_cast; grind
      · have : G a / G a = 1 := by have : G a ≠ 0 := by grind
                                   grind
        grind
    | succ i ih =>
      intro hi
      have ih := ih (by omega)
      have p0 := pt_in hab hn (show i ≤ n by omega)
      have p1 := pt_in hab hn hi
      have e1 : a + ((i + 1 : Nat) : Rat) * ((b - a) / n) = (a + i * ((b - a) / n)) + (b - a) / n := by push_cast; grind
      have hd : 0 ≤ (b - a) / n := by
        rw [Rat.div_def]; exact Rat.mul_nonneg (by grind) (Rat.le_of_lt (Rat.inv_pos.mpr hq))
      rw [e1] at p1 ⊢
      generalize hx : a + (i : Rat) * ((b - a) / n) = x at *
      generalize hdd : (b - a) / n = d at *
      have g0 := hG x p0.1 p0.2
      have g1 := hG (x + d) p1.1 p1.2
      have st := h x (x + d) p0.1 (by grind) p1.2
      have bs := Lg.basic (t := G x / G (x + d)) (q := G (x + d) / G x) (rdiv_pos g0 g1) (by
        rw [rdiv_mul g0]
        have : G (x + d) / G (x + d) = 1 := by have : G (x + d) ≠ 0 := by grind
                                               grind
        grind)
      refine (Lg.add bs ih).mono ?_ ?_
      · push_cast; grind
      · rw [rdiv_mul g0]; grind
  have k := key n (Nat.le_refl n)
  have e2 : a + (n : Rat) * ((b - a) / n) = b := by
    have : (n : Rat) ≠ 0 := by grind
    grind
  rw [e2] at k
  exact k.mono (by grind) (by grind)
theorem Ug.along (hab : a ≤ b) (hC : 0 ≤ C) (hG : ∀ x, a ≤ x → x ≤ b → 0 < G x)
    (h : ∀ x y, a ≤ x → x ≤ y → y ≤ b → G y / G x - 1 ≤ F y - F x + C * ((y - x) * (y - x))) : Ug (F b - F a) (G b / G a) := by
  refine Ug.lim fun e he => ?_
  obtain ⟨n, hn, hs⟩ := small_step (d := b - a) hC he
  have hq : (0 : Rat) < n := by exact_mod_cast hn
  have ha0 := hG a Rat.le_refl hab
  have key : ∀ i : Nat, i ≤ n → Ug (F (a + i * ((b - a) / n)) - F a + i * (C * (((b - a) / n) * ((b - a) / n)))) (G (a + i * ((b - a) / n)) / G a) := by
    intro i
    induction i with
    | zero =>
      intro _
      have e0 : a + ((0 : Nat) : Rat) * ((b - a) / n) = a := by push_cast; grind
      rw [e0]
      refine Ug.zero.mono ?_ ?_
      · push_cast; grind
      · have : G a / G a = 1 := by have : G a ≠ 0 := by grind
                                   grind
        grind
    | succ i ih =>
      intro hi
      have ih := ih (by omega)
      have p0 := pt_in hab hn (show i ≤ n by omega)
      have p1 := pt_in hab hn hi
      have e1 : a + ((i + 1 : Nat) : Rat) * ((b - a) / n) = (a + i * ((b - a) / n)) + (b - a) / n := by push_cast; grind
      have hd : 0 ≤ (b - a) / n := by
        rw [Rat.div_def]; exact Rat.mul_nonneg (by grind) (Rat.le_of_lt (Rat.inv_pos.mpr hq))
      rw [e1] at p1 ⊢
      generalize hx : a + (i : Rat) * ((b - a) / n) = x at *
      generalize hdd : (b - a) / n = d at *
      have g0 := hG x p0.1 p0.2
      have g1 := hG (x + d) p1.1 p1.2
      have st := h x (x + d) p0.1 (by grind) p1.2
      have bs := Ug.basic (q := G (x + d) / G x) (rdiv_pos g1 g0)
      refine (Ug.add (rdiv_pos g0 ha0) bs ih).mono ?_ ?_
      · push_cast; grind
      · rw [rdiv_mul g0]; grind
  have k := key n (Nat.le_refl n)
  have e2 : a + (n : Rat) * ((b - a) / n) = b := by
    have : (n : Rat) ≠ 0 := by grind
    grind
  rw [e2] at k
  exact k.mono (by grind) (by grind)
end
end Mine

end
section
namespace Mine
theorem absmul {x e B : Rat} (h1 : -1 ≤ x) (h2 : x ≤ 1) (h3 : -B ≤ e) (h4 : e ≤ B) : -B ≤ x * e ∧ x * e ≤ B := by
  have a := Rat.mul_nonneg (show 0 ≤ 1 - x by grind) (show 0 ≤ B - e by grind)
  have b := Rat.mul_nonneg (show 0 ≤ 1 - x by grind) (show 0 ≤ B + e by grind)
  have c := Rat.mul_nonneg (show 0 ≤ 1 + x by grind) (show 0 ≤ B - e by grind)
  have d := Rat.mul_nonneg (show 0 ≤ 1 + x by grind) (show 0 ≤ B + e by grind)
  constructor <;> grind
theorem abspow {y z : Rat} (h0 : 0 ≤ y) (h1 : -y ≤ z) (h2 : z ≤ y) : ∀ n : Nat, -(y ^ n) ≤ z ^ n ∧ z ^ n ≤ y ^ n ∧ 0 ≤ y ^ n
  | 0 => by simp only [Rat.pow_zero]; grind
  | n + 1 => by
    obtain ⟨a, b, c⟩ := abspow h0 h1 h2 n
    rw [Rat.pow_succ, Rat.pow_succ]
    have k1 := Rat.mul_nonneg (show 0 ≤ y ^ n - z ^ n by grind) (show 0 ≤ y - z by grind)
    have k2 := Rat.mul_nonneg (show 0 ≤ y ^ n - z ^ n by grind) (show 0 ≤ y + z by grind)
    have k3 := Rat.mul_nonneg (show 0 ≤ y ^ n + z ^ n by grind) (show 0 ≤ y - z by grind)
    have k4 := Rat.mul_nonneg (show 0 ≤ y ^ n + z ^ n by grind) (show 0 ≤ y + z by grind)
    have k5 := Rat.mul_nonneg c h0
    refine ⟨?_, ?_, k5⟩ <;> grind
theorem one_rpow : ∀ n : Nat, (1 : Rat) ^ n = 1
  | 0 => Rat.pow_zero ..
  | n + 1 => by rw [Rat.pow_succ, one_rpow n, Rat.mul_one]
theorem abspow1 {z : Rat} (h1 : -1 ≤ z) (h2 : z ≤ 1) (n : Nat) : -1 ≤ z ^ n ∧ z ^ n ≤ 1 := by
  have := abspow (y := 1) (by grind) h1 h2 n
  rw [one_rpow] at this
  exact ⟨this.1, this.2.1⟩
/-- the tangent of a power -/
theorem pdiff {x y : Rat} (hx1 : -1 ≤ x) (hx2 : x ≤ 1) (hy1 : -1 ≤ y) (hy2 : y ≤ 1) : ∀ k : Nat,
    -(((k : Rat) + 1) * (k + 1) * ((x - y) * (x - y))) ≤ x ^ (k + 1) - y ^ (k + 1) - (k + 1) * y ^ k * (x - y) ∧ x ^ (k + 1) - y ^ (k + 1) - (k + 1) * y ^ k * (x - y) ≤ ((k : Rat) + 1) * (k + 1) * ((x - y) * (x - y))
  | 0 => by
    simp only [Rat.pow_succ, Rat.pow_zero]
    have := rsq_nonneg (x - y)
    push_cast
    constructor <;> grind
  | k + 1 => by
    obtain ⟨a, b⟩ := pdiff hx1 hx2 hy1 hy2 k
    have hd := rsq_nonneg (x - y)
    have hk : (0 : Rat) ≤ k := Rat.natCast_nonneg
    have hy := abspow1 hy1 hy2 k
    have m1 := absmul hx1 hx2 a b
    have m2 := absmul (B := ((k : Rat) + 1) * ((x - y) * (x - y))) (e := ((k : Rat) + 1) * ((x - y) * (x - y))) hy.1 hy.2 (by have := Rat.mul_nonneg (show (0 : Rat) ≤ k + 1 by grind) hd; grind) (by grind)
    have e : x ^ (k + 1 + 1) - y ^ (k + 1 + 1) - (((k + 1 : Nat) : Rat) + 1) * y ^ (k + 1) * (x - y) = x * (x ^ (k + 1) - y ^ (k + 1) - (k + 1) * y ^ k * (x - y)) + y ^ k * (((k : Rat) + 1) * ((x - y) * (x - y))) := by
      rw [Rat.pow_succ x (k + 1), Rat.pow_succ y (k + 1), Rat.pow_succ y k]
      push_cast
      generalize x ^ (k + 1) = X
      generalize y ^ k = Y
      grind
    rw [e]
    have h1 := Rat.mul_nonneg (show (0 : Rat) ≤ k + 1 by grind) hd
    have h2 : (((k + 1 : Nat) : Rat) + 1) * (((k + 1 : Nat) : Rat) + 1) * ((x - y) * (x - y)) = ((k : Rat) + 1) * (k + 1) * ((x - y) * (x - y)) + ((k : Rat) + 1) * ((x - y) * (x - y)) + ((k : Rat) + 1) * ((x - y) * (x - y)) + (x - y) * (x - y) := by push_cast; grind
    rw [h2]
    generalize (x - y) * (x - y) = d at *
    generalize x * (x ^ (k + 1) - y ^ (k + 1) - (k + 1) * y ^ k * (x - y)) = U at *
    generalize y ^ k * (((k : Rat) + 1) * d) = V at *
    constructor <;> grind
/-- the series of log (1 + v) -/
def lgS (v : Rat) : Nat → Rat
  | 0 => 0
  | k + 1 => lgS v k - (-v) ^ (k + 1) / (k + 1)
/-- its slope -/
def lgD (v : Rat) : Nat → Rat
  | 0 => 0
  | k + 1 => lgD v k + (-v) ^ k
theorem lgD_eq (v : Rat) : ∀ T : Nat, (1 + v) * lgD v T = 1 - (-v) ^ T
  | 0 => by simp only [lgD, Rat.pow_zero]; grind
  | T + 1 => by
    have := lgD_eq v T
    simp only [lgD, Rat.pow_succ]; grind
theorem lgS_diff {x y : Rat} (hx1 : -1 ≤ x) (hx2 : x ≤ 1) (hy1 : -1 ≤ y) (hy2 : y ≤ 1) : ∀ T : Nat,
    -((T : Rat) * T * ((x - y) * (x - y))) ≤ lgS y T - lgS x T - lgD y T * (y - x) ∧ lgS y T - lgS x T - lgD y T * (y - x) ≤ (T : Rat) * T * ((x - y) * (x - y))
  | 0 => by
    simp only [lgS, lgD]; push_cast; constructor <;> grind
  | T + 1 => by
    obtain ⟨a, b⟩ := lgS_diff hx1 hx2 hy1 hy2 T
    obtain ⟨c, d⟩ := pdiff (x := -x) (y := -y) (by grind) (by grind) (by grind) (by grind) T
    have hT : (0 : Rat) ≤ T := Rat.natCast_nonneg
    have hd := rsq_nonneg (x - y)
    simp only [lgS, lgD]
    have e1 : (-x - -y) * (-x - -y) = (x - y) * (x - y) := by grind
    rw [e1] at c d
    have e2 : lgS y T - (-y) ^ (T + 1) / (T + 1) - (lgS x T - (-x) ^ (T + 1) / (T + 1)) - (lgD y T + (-y) ^ T) * (y - x) = (lgS y T - lgS x T - lgD y T * (y - x)) + ((-x) ^ (T + 1) - (-y) ^ (T + 1) - (T + 1) * (-y) ^ T * (-x - -y)) / (T + 1) := by
      have : (T : Rat) + 1 ≠ 0 := by grind
      grind
    rw [e2]
    generalize lgS y T - lgS x T - lgD y T * (y - x) = U at *
    generalize (-x) ^ (T + 1) - (-y) ^ (T + 1) - (T + 1) * (-y) ^ T * (-x - -y) = V at *
    generalize (x - y) * (x - y) = D at *
    have h1 : V / ((T : Rat) + 1) ≤ ((T : Rat) + 1) * D := by
      have : V / ((T : Rat) + 1) * ((T : Rat) + 1) = V := fld3 (by grind)
      rcases rlt_or_le (((T : Rat) + 1) * D) (V / ((T : Rat) + 1)) with h | h
      · have := Rat.mul_lt_mul_of_pos_right h (show (0 : Rat) < T + 1 by grind)
        grind
      · exact h
    have h2 : -(((T : Rat) + 1) * D) ≤ V / ((T : Rat) + 1) := by
      have : V / ((T : Rat) + 1) * ((T : Rat) + 1) = V := fld3 (by grind)
      rcases rlt_or_le (V / ((T : Rat) + 1)) (-(((T : Rat) + 1) * D)) with h | h
      · have := Rat.mul_lt_mul_of_pos_right h (show (0 : Rat) < T + 1 by grind)
        grind
      · exact h
    have h3 := Rat.mul_nonneg hT hd
    push_cast
    constructor <;> grind
end Mine

end
section
namespace Mine
theorem rdiv_le {a b c : Rat} (hb : 0 < b) (h : a ≤ c * b) : a / b ≤ c := by
  rcases rlt_or_le c (a / b) with h1 | h1
  · exfalso
    have := Rat.mul_lt_mul_of_pos_right h1 hb
    rw [fld3 hb] at this
    grind
  · exact h1
theorem le_rdiv {a b c : Rat} (hb : 0 < b) (h : c * b ≤ a) : c ≤ a / b := by
  rcases rlt_or_le (a / b) c with h1 | h1
  · exfalso
    have := Rat.mul_lt_mul_of_pos_right h1 hb
    rw [fld3 hb] at this
    grind
  · exact h1
section
variable {s u : Rat}
/-- F' of the lower and the upper function -/
theorem tay_pt {s y : Rat} (hs : s = 1 ∨ s = -1) (h0 : 0 ≤ y) (h1 : 2 * y ≤ 1) (T : Nat) :
    (s * lgD (s * y) T - 2 * y ^ T) * (1 + s * y) ≤ s ∧ s ≤ (s * lgD (s * y) T + 2 * y ^ T) * (1 + s * y) := by
  have e := lgD_eq (s * y) T
  have hz : -y ≤ -(s * y) ∧ -(s * y) ≤ y := by rcases hs with h | h <;> subst h <;> constructor <;> grind
  obtain ⟨a, b, c⟩ := abspow h0 hz.1 hz.2 T
  have hg : (1 : Rat) ≤ 2 * (1 + s * y) := by rcases hs with h | h <;> subst h <;> grind
  have k := Rat.mul_nonneg c (show (0 : Rat) ≤ 2 * (1 + s * y) - 1 by grind)
  have e1 : s * lgD (s * y) T * (1 + s * y) = s - s * (-(s * y)) ^ T := by
    have : s * lgD (s * y) T * (1 + s * y) = s * ((1 + s * y) * lgD (s * y) T) := by grind
    rw [this, e]; grind
  generalize (-(s * y)) ^ T = Z at *
  generalize y ^ T = Y at *
  generalize lgD (s * y) T = D at *
  rcases hs with h | h <;> subst h <;> constructor <;> grind
/-- lower and upper function -/
def tayF (s σ : Rat) (T : Nat) (x : Rat) : Rat := lgS (s * x) T + σ * (2 * x ^ (T + 1) / (T + 1))
theorem tayF_diff {s σ x y : Rat} (hs : s = 1 ∨ s = -1) (hσ : σ = 1 ∨ σ = -1) (hx0 : 0 ≤ x) (hx1 : x ≤ 1) (hy0 : 0 ≤ y) (hy1 : y ≤ 1) (T : Nat) :
    -(((T : Rat) * T + 2 * (T + 1)) * ((y - x) * (y - x))) ≤ tayF s σ T y - tayF s σ T x - (s * lgD (s * y) T + σ * (2 * y ^ T)) * (y - x) ∧
    tayF s σ T y - tayF s σ T x - (s * lgD (s * y) T + σ * (2 * y ^ T)) * (y - x) ≤ (((T : Rat) * T + 2 * (T + 1)) * ((y - x) * (y - x))) := by
  obtain ⟨a, b⟩ := lgS_diff (x := s * x) (y := s * y) (by rcases hs with h | h <;> subst h <;> grind) (by rcases hs with h | h <;> subst h <;> grind) (by rcases hs with h | h <;> subst h <;> grind) (by rcases hs with h | h <;> subst h <;> grind) T
  obtain ⟨c, d⟩ := pdiff (x := x) (y := y) (by grind) (by grind) (by grind) (by grind) T
  have hT : (0 : Rat) ≤ T := Rat.natCast_nonneg
  have e0 : (s * x - s * y) * (s * x - s * y) = (y - x) * (y - x) := by rcases hs with h | h <;> subst h <;> grind
  have e0' : (x - y) * (x - y) = (y - x) * (y - x) := by grind
  rw [e0] at a b
  rw [e0'] at c d
  unfold tayF
  have e1 : lgS (s * y) T + σ * (2 * y ^ (T + 1) / (T + 1)) - (lgS (s * x) T + σ * (2 * x ^ (T + 1) / (T + 1))) - (s * lgD (s * y) T + σ * (2 * y ^ T)) * (y - x)
      = (lgS (s * y) T - lgS (s * x) T - lgD (s * y) T * (s * y - s * x)) - σ * (2 * ((x ^ (T + 1) - y ^ (T + 1) - (T + 1) * y ^ T * (x - y)) / (T + 1))) := by
    have : (T : Rat) + 1 ≠ 0 := by grind
    grind
  rw [e1]
  generalize lgS (s * y) T - lgS (s * x) T - lgD (s * y) T * (s * y - s * x) = U at *
  generalize x ^ (T + 1) - y ^ (T + 1) - (T + 1) * y ^ T * (x - y) = V at *
  generalize (y - x) * (y - x) = D at *
  have h1 : V / ((T : Rat) + 1) ≤ ((T : Rat) + 1) * D := rdiv_le (by grind) (by grind)
  have h2 : -(((T : Rat) + 1) * D) ≤ V / ((T : Rat) + 1) := le_rdiv (by grind) (by grind)
  generalize V / ((T : Rat) + 1) = W at *
  rcases hσ with h | h <;> subst h <;> constructor <;> grind
theorem tay_lo (hs : s = 1 ∨ s = -1) (h0 : 0 ≤ u) (h1 : 2 * u ≤ 1) (T : Nat) : Lg (lgS (s * u) T - 2 * u ^ (T + 1) / (T + 1)) (1 + s * u) := by
  have hT : (0 : Rat) ≤ T := Rat.natCast_nonneg
  have key := Lg.along (F := tayF s (-1) T) (G := fun x => 1 + s * x) (a := 0) (b := u) (C := (T : Rat) * T + 2 * (T + 1)) h0 (by have := Rat.mul_nonneg hT hT; grind)
    (by intro x hx hx2; rcases hs with h | h <;> subst h <;> grind) (by
      intro x y hx hxy hy
      have hp := (tay_pt hs (y := y) (by grind) (by grind) T).1
      have hd := (tayF_diff (σ := -1) hs (Or.inr rfl) hx (by grind) (show 0 ≤ y by grind) (by grind) T).2
      have g : 0 < 1 + s * y := by rcases hs with h | h <;> subst h <;> grind
      have e : 1 - (1 + s * x) / (1 + s * y) = s / (1 + s * y) * (y - x) := by
        have : 1 + s * y ≠ 0 := by grind
        grind
      have h2 : s * lgD (s * y) T - 2 * y ^ T ≤ s / (1 + s * y) := le_rdiv g hp
      have h3 := Rat.mul_nonneg (show 0 ≤ s / (1 + s * y) - (s * lgD (s * y) T - 2 * y ^ T) by grind) (show 0 ≤ y - x by grind)
      show _ ≤ 1 - (1 + s * x) / (1 + s * y) + _
      rw [e]
      generalize s / (1 + s * y) = A at *
      generalize lgD (s * y) T = B at *
      grind)
  refine key.mono ?_ ?_
  · unfold tayF
    have e0 : lgS (s * 0) T = 0 := by
      rw [Rat.mul_zero]
      have : ∀ T, lgS 0 T = 0 := by
        intro T
        induction T with
        | zero => rfl
        | succ T ih => simp only [lgS, ih, Rat.pow_succ]; grind
      exact this T
    rw [e0, show (0 : Rat) ^ (T + 1) = 0 by rw [Rat.pow_succ, Rat.mul_zero]]
    grind
  · have : (1 + s * u) / (1 + s * 0) = 1 + s * u := by rw [Rat.mul_zero]; grind
    show (1 + s * u) / (1 + s * 0) ≤ _
    rw [this]
    grind
theorem tay_hi (hs : s = 1 ∨ s = -1) (h0 : 0 ≤ u) (h1 : 2 * u ≤ 1) (T : Nat) : Ug (lgS (s * u) T + 2 * u ^ (T + 1) / (T + 1)) (1 + s * u) := by
  have hT : (0 : Rat) ≤ T := Rat.natCast_nonneg
  have key := Ug.along (F := tayF s 1 T) (G := fun x => 1 + s * x) (a := 0) (b := u) (C := (T : Rat) * T + 2 * (T + 1) + 4) h0 (by have := Rat.mul_nonneg hT hT; grind)
    (by intro x hx hx2; rcases hs with h | h <;> subst h <;> grind) (by
      intro x y hx hxy hy
      have hp := (tay_pt hs (y := y) (by grind) (by grind) T).2
      have hd := (tayF_diff (σ := 1) hs (Or.inl rfl) hx (by grind) (show 0 ≤ y by grind) (by grind) T).1
      have g : 0 < 1 + s * y := by rcases hs with h | h <;> subst h <;> grind
      have g' : 0 < 1 + s * x := by rcases hs with h | h <;> subst h <;> grind
      have gb : (1 : Rat) ≤ 2 * (1 + s * y) := by rcases hs with h | h <;> subst h <;> grind
      have gb' : (1 : Rat) ≤ 2 * (1 + s * x) := by rcases hs with h | h <;> subst h <;> grind
      have e : (1 + s * y) / (1 + s * x) - 1 = s / (1 + s * x) * (y - x) := by
        have : 1 + s * x ≠ 0 := by grind
        grind
      have h2 : s / (1 + s * y) ≤ s * lgD (s * y) T + 2 * y ^ T := rdiv_le g hp
      have h3 := Rat.mul_nonneg (show 0 ≤ (s * lgD (s * y) T + 2 * y ^ T) - s / (1 + s * y) by grind) (show 0 ≤ y - x by grind)
      have h4 : s / (1 + s * x) ≤ s / (1 + s * y) + 4 * (y - x) := by
        refine rdiv_le g' ?_
        have e5 : s / (1 + s * y) * (1 + s * x) = s - s / (1 + s * y) * (s * (y - x)) := by
          have : 1 + s * y ≠ 0 := by grind
          grind
        have e6 : s / (1 + s * y) * (s * (y - x)) = (y - x) / (1 + s * y) := by
          have : 1 + s * y ≠ 0 := by grind
          rcases hs with h | h <;> subst h <;> grind
        have e7 : (y - x) / (1 + s * y) ≤ 2 * (y - x) := rdiv_le g (by
          have := Rat.mul_nonneg (show 0 ≤ y - x by grind) (show (0 : Rat) ≤ 2 * (1 + s * y) - 1 by grind)
          grind)
        have e8 := Rat.mul_nonneg (show 0 ≤ y - x by grind) (show (0 : Rat) ≤ 2 * (1 + s * x) - 1 by grind)
        rw [Rat.add_mul, e5, e6]
        grind
      have h5 := Rat.mul_nonneg (show 0 ≤ s / (1 + s * y) + 4 * (y - x) - s / (1 + s * x) by grind) (show 0 ≤ y - x by grind)
      show (1 + s * y) / (1 + s * x) - 1 ≤ _
      rw [e]
      generalize s / (1 + s * y) = A at *
      generalize s / (1 + s * x) = A' at *
      generalize lgD (s * y) T = B at *
      grind)
  refine key.mono ?_ ?_
  · unfold tayF
    have e0 : lgS (s * 0) T = 0 := by
      rw [Rat.mul_zero]
      have : ∀ T, lgS 0 T = 0 := by
        intro T
        induction T with
        | zero => rfl
        | succ T ih => simp only [lgS, ih, Rat.pow_succ]; grind
      exact this T
    rw [e0, show (0 : Rat) ^ (T + 1) = 0 by rw [Rat.pow_succ, Rat.mul_zero]]
    grind
  · have : (1 + s * u) / (1 + s * 0) = 1 + s * u := by rw [Rat.mul_zero]; grind
    show _ ≤ (1 + s * u) / (1 + s * 0)
    rw [this]
    grind
end
end Mine

end
section
open PySem PySem.W PyProof.Rows
section
open PySem PySem.W PyProof.Rows
namespace Mine
/-- fewer than n bits -/
def Fit (n : Nat) (x : Int) : Prop := x.natAbs < 2 ^ n
theorem Fit.mono {n m : Nat} {x : Int} (h : Fit n x) (hm : n ≤ m) : Fit m x :=
  Nat.lt_of_lt_of_le h (Nat.pow_le_pow_right (by decide) hm)
theorem Fit.bits {n : Nat} {x : Int} (h : Fit n x) : Builtin.Int.intBits x ≤ n := by
  unfold Builtin.Int.intBits
  split
  · omega
  · rename_i hx
    have h0 : x.natAbs ≠ 0 := by
      intro e; apply hx; simp; omega
    have := (Nat.log2_lt h0).mpr h
    omega
theorem Fit.mul {n m : Nat} {x y : Int} (hx : Fit n x) (hy : Fit m y) : Fit (n + m) (x * y) := by
  unfold Fit at *
  rw [Int.natAbs_mul, Nat.pow_add]
  exact Nat.mul_lt_mul'' hx hy
theorem Fit.add {n m : Nat} {x y : Int} (hx : Fit n x) (hy : Fit m y) : Fit (n + m + 1) (x + y) := by
  unfold Fit at *
  have h1 : 2 ^ n ≤ 2 ^ (n + m) := Nat.pow_le_pow_right (by decide) (by omega)
  have h2 : 2 ^ m ≤ 2 ^ (n + m) := Nat.pow_le_pow_right (by decide) (by omega)
  have h3 : 2 ^ (n + m + 1) = 2 * 2 ^ (n + m) := by rw [Nat.pow_succ]; omega
  omega
theorem Fit.neg {n : Nat} {x : Int} (hx : Fit n x) : Fit n (-x) := by
  unfold Fit at *; omega
theorem Fit.mulOk {n m : Nat} {x y : Int} (hx : Fit n x) (hy : Fit m y) (h : n + m ≤ 1000000) : IntMulOk x y := by
  have h1 := hx.bits
  have h2 := hy.bits
  unfold IntMulOk Builtin.Int.intTooBig
  intro hh
  simp only [Bool.and_eq_true, decide_eq_true_eq] at hh
  have h3 := hh.2
  have : ((bitsLine : Nat) : Int) = 134217728 := by decide +kernel
  rw [this] at h3
  omega
theorem Fit.noPylong {n : Nat} {x y : Int} (hy : Fit n y) (h : n ≤ 9000) : Builtin.divisionGoesByPylong x y = false := by
  refine PyProof.noPylong_of_log2 ?_
  by_cases h0 : y.natAbs = 0
  · rw [h0]; decide +kernel
  · exact (Nat.log2_lt h0).mpr (Fit.mono hy h)
end Mine

end
section
open PySem PySem.W PyProof.Rows
namespace Mine
/-- a call of f with vs gives back an int r with P r, and leaves all as it was -/
abbrev ConI (prog : Program) (w : World) (K : Frag) (p : Program) (loose : List Str) (mean : ExcName → Option Value) (mg mb : Str → Option Value) (d : Nat) (f : Addr) (vs : List Value) (P : Int → Prop) : Prop :=
  ∀ (news : List (Addr × Obj)) (dp un : Nat) (gd : Option (List Code)) (cn : Str) (cs : Scope) (a : Addr) (ccd : Value) (cl : List (Str × Addr)) (outer : List Env) (A₀ : Around) (base h₀ : Heap) (L : Addr) (m : Str → Option Value) (s : Shared) (Q E : Value → Shared → Prop),
    Below A₀ base outer h₀ → Fr h₀ L s.heap m → K.In h₀ → News h₀ L s.heap news → Top p loose mean mg mb h₀ → cs.kind = .function →
    dp + d < recursionLimit → un + 8 * d < cLine →
    (∀ (r : Int) (t : Tok) (h' : Heap) (tk' : Nat), P r → Fr h₀ L h' m → News h₀ L h' news → Q (.int r t) { s with heap := h', toks := tk' }) →
      wpAny (model prog w) (ktrTop dp un gd cn cs L a ccd cl outer) (call (.ref f) vs) Q E s
/-- the same with the very int -/
abbrev ConX (prog : Program) (w : World) (K : Frag) (p : Program) (loose : List Str) (mean : ExcName → Option Value) (mg mb : Str → Option Value) (d : Nat) (f : Addr) (vs : List Value) (r : Int) : Prop :=
  ∀ (news : List (Addr × Obj)) (dp un : Nat) (gd : Option (List Code)) (cn : Str) (cs : Scope) (a : Addr) (ccd : Value) (cl : List (Str × Addr)) (outer : List Env) (A₀ : Around) (base h₀ : Heap) (L : Addr) (m : Str → Option Value) (s : Shared) (Q E : Value → Shared → Prop),
    Below A₀ base outer h₀ → Fr h₀ L s.heap m → K.In h₀ → News h₀ L s.heap news → Top p loose mean mg mb h₀ → cs.kind = .function →
    dp + d < recursionLimit → un + 8 * d < cLine →
    (∀ (t : Tok) (h' : Heap) (tk' : Nat), Fr h₀ L h' m → News h₀ L h' news → Q (.int r t) { s with heap := h', toks := tk' }) →
      wpAny (model prog w) (ktrTop dp un gd cn cs L a ccd cl outer) (call (.ref f) vs) Q E s
theorem con_retI {h₀ h' : Heap} {L : Addr} {m : Str → Option Value} {news news' : List (Addr × Obj)} {s : Shared} {Q : Value → Shared → Prop} {P : Int → Prop} {r : Int} {t : Tok} {tk' : Nat}
   (hret : ∀ (r : Int) (t : Tok) (h' : Heap) (tk' : Nat), P r → Fr h₀ L h' m → News h₀ L h' news → Q (.int r t) { s with heap := h', toks := tk' })
   (hp : P r) (F : Fr h₀ L h' m) (N : News h₀ L h' news') (hs : ∀ p ∈ news, p ∈ news') : Q (.int r t) { s with heap := h', toks := tk' } :=
  hret _ _ _ _ hp F fun p hp => N p (hs p hp)
theorem con_retX {h₀ h' : Heap} {L : Addr} {m : Str → Option Value} {news news' : List (Addr × Obj)} {s : Shared} {Q : Value → Shared → Prop} {x r : Int} {t : Tok} {tk' : Nat}
   (hret : ∀ (t : Tok) (h' : Heap) (tk' : Nat), Fr h₀ L h' m → News h₀ L h' news → Q (.int x t) { s with heap := h', toks := tk' })
   (hp : r = x) (F : Fr h₀ L h' m) (N : News h₀ L h' news') (hs : ∀ p ∈ news, p ∈ news') : Q (.int r t) { s with heap := h', toks := tk' } := by
  subst hp
  exact hret _ _ _ F fun p hp => N p (hs p hp)
/-- nearest of a / b, ties to even -/
def divN (a b : Int) : Int := a / b + (if b < 2 * (a % b) + a / b % 2 then 1 else 0)
theorem divN_walk {a b : Int} (hb : 0 < b) : (a.fdiv b + if decide (b < 2 * a.fmod b + Builtin.bitAnd (a.fdiv b) 1) = true then 1 else 0) = divN a b := by
  unfold divN
  rw [bitAnd_m1, Int.fdiv_eq_ediv_of_nonneg _ (by omega), Int.fmod_eq_emod_of_nonneg _ (by omega)]
  simp
end Mine
namespace Mine
theorem rshN_walk {x : Int} {n : Nat} : (x.fdiv (2 ^ n) + if decide (1 * 2 ^ n < 2 * Builtin.bitAnd x (1 * 2 ^ n - 1) + Builtin.bitAnd (x.fdiv (2 ^ n)) 1) = true then 1 else 0) = divN x (2 ^ n) := by
  have h : (0 : Int) < 2 ^ n := Int.pow_pos (by decide)
  rw [Int.one_mul, kbt_mask, ← divN_walk h, Int.fmod_eq_emod_of_nonneg _ (by omega)]
theorem isq_nonneg (a : Int) : 0 ≤ a * a := by
  rcases Int.le_total 0 a with h | h
  · exact Int.mul_nonneg h h
  · exact Int.mul_nonneg_of_nonpos_of_nonpos h h
/-- one turn of Newton's -/
def sqStep (n a : Int) : Int := (a - (-n) / a) / 2
theorem sqStep_lo {n a : Int} (hn : 0 < n) (ha : 0 < a) : 0 < sqStep n a ∧ n ≤ sqStep n a * sqStep n a + sqStep n a := by
  unfold sqStep
  generalize hq : (-n) / a = q
  have e1 := Int.mul_ediv_add_emod (-n) a
  have e2 := Int.emod_nonneg (-n) (b := a) (by omega)
  have e3 := Int.emod_lt_of_pos (-n) ha
  rw [hq] at e1
  generalize hr : (-n) % a = r at *
  generalize hz : (a - q) / 2 = z
  -- -n = a q + r, 0 ≤ r < a; c := -q ≥ n/a, c ≥ 1
  have hq0 : q < 0 := by
    rcases Int.lt_or_le q 0 with h | h
    · exact h
    · have := Int.mul_nonneg (Int.le_of_lt ha) h; omega
  have hz2 : 2 * z ≤ a - q ∧ a - q ≤ 2 * z + 1 := by omega
  have hz0 : 0 < z := by omega
  refine ⟨hz0, ?_⟩
  -- n ≤ a * (-q), (a - q)^2 ≥ 4 a (-q) ; (2z+1)^2 ≥ (a-q)^2
  have h1 : n ≤ a * (-q) := by have : a * (-q) = -(a * q) := by rw [Int.mul_neg]
                               omega
  have h2 : 4 * (a * (-q)) ≤ (a - q) * (a - q) := by
    have := isq_nonneg (a + q)
    grind
  have h3 : (a - q) * (a - q) ≤ (2 * z + 1) * (2 * z + 1) := Int.mul_le_mul hz2.2 hz2.2 (by omega) (by omega)
  have h4 : (2 * z + 1) * (2 * z + 1) = 4 * (z * z + z) + 1 := by grind
  omega
theorem sqStep_fix {n a : Int} (ha : 0 < a) (h : sqStep n a = a) : a * a - a < n ∧ n ≤ a * a + a := by
  unfold sqStep at h
  have e1 := Int.mul_ediv_add_emod (-n) a
  have e2 := Int.emod_nonneg (-n) (b := a) (by omega)
  have e3 := Int.emod_lt_of_pos (-n) ha
  generalize hq : (-n) / a = q at *
  generalize hr : (-n) % a = r at *
  have : -(a + 1) ≤ q ∧ q ≤ -a := by omega
  have h5 : q = -a ∨ q = -(a+1) := by omega
  rcases h5 with h5 | h5 <;> subst h5 <;> constructor <;> grind
theorem sqStep_less {n a : Int} (ha : 0 < a) (h : sqStep n a ≠ a) (hn : n ≤ a * a + a) : sqStep n a < a := by
  unfold sqStep at *
  have e1 := Int.mul_ediv_add_emod (-n) a
  have e2 := Int.emod_nonneg (-n) (b := a) (by omega)
  have e3 := Int.emod_lt_of_pos (-n) ha
  generalize hq : (-n) / a = q at *
  generalize hr : (-n) % a = r at *
  rcases Int.lt_or_le (a + 1) (-q) with h1 | h1
  · exfalso
    have h2 : a * q ≤ a * (-(a + 2)) := Int.mul_le_mul_of_nonneg_left (by omega) (by omega)
    have h3 : a * (-(a+2)) = -(a * a) - 2 * a := by grind
    omega
  · omega
/-- the nearest to the root of n -/
def IsSq (n r : Int) : Prop := 0 < r ∧ r * r - r < n ∧ n ≤ r * r + r
theorem IsSq.unique {n r s : Int} (h : IsSq n r) (k : IsSq n s) : r = s := by
  obtain ⟨a1, a2, a3⟩ := h
  obtain ⟨b1, b2, b3⟩ := k
  rcases Int.lt_trichotomy r s with h | h | h
  · exfalso
    have : (r + 1) * (r + 1) ≤ s * s := Int.mul_le_mul (by omega) (by omega) (by omega) (by omega)
    have h5 : (s - r - 1) * (s + r) ≥ 0 := Int.mul_nonneg (by omega) (by omega)
    grind
  · exact h
  · exfalso
    have h5 : (r - s - 1) * (r + s) ≥ 0 := Int.mul_nonneg (by omega) (by omega)
    grind
end Mine

namespace Mine
theorem sqStep_hi {n a z : Int} (hn : 0 < n) (ha : 0 < a) (hz : a ≤ z + n) (hz0 : 0 < z) : sqStep n a ≤ z + n := by
  unfold sqStep
  have e1 := Int.mul_ediv_add_emod (-n) a
  have e2 := Int.emod_nonneg (-n) (b := a) (by omega)
  have e3 := Int.emod_lt_of_pos (-n) ha
  generalize hq : (-n) / a = q at *
  generalize hr : (-n) % a = r at *
  have : -n ≤ q := by
    rcases Int.lt_or_le q (-n) with h | h
    · exfalso
      have h2 : a * q ≤ a * (-n - 1) := Int.mul_le_mul_of_nonneg_left (by omega) (by omega)
      have h3 : a * (-n - 1) = -(a * n) - a := by grind
      have h4 : n ≤ a * n := by
        have : 1 * n ≤ a * n := Int.mul_le_mul_of_nonneg_right (by omega) (by omega)
        omega
      omega
    · exact h
  omega
def sqMeas (n b a : Int) : Nat := if n ≤ a * a + a then 2 * a.toNat + (if a = b then 0 else 1) else 2 * (a.toNat + n.toNat) + 10
theorem sqMeas_less {n b a : Int} (hn : 0 < n) (ha : 0 < a) (hab : a ≠ b) : sqMeas n a (sqStep n a) < sqMeas n b a := by
  have ⟨h0, h1⟩ := sqStep_lo hn ha
  have h2 := sqStep_hi (z := a) hn ha (by omega) ha
  unfold sqMeas
  rw [if_pos h1, if_neg hab]
  by_cases e : sqStep n a = a
  · rw [if_pos e]; split <;> omega
  · rw [if_neg e]
    split
    · rename_i h
      have := sqStep_less ha e h
      omega
    · omega
end Mine
namespace Mine
theorem Fit.of_le {k : Nat} {x y : Int} (h : Fit k y) (h1 : -y ≤ x) (h2 : x ≤ y) : Fit k x := by
  unfold Fit at *; omega
theorem sq_walk {n a : Int} (ha : 0 < a) : (a - (-n).fdiv a).fdiv (2 ^ Int.toNat 1) = sqStep n a := by
  unfold sqStep
  rw [Int.fdiv_eq_ediv_of_nonneg _ (b := 2 ^ Int.toNat 1) (by decide), Int.fdiv_eq_ediv_of_nonneg _ (b := a) (by omega)]
  rfl
theorem sq_turn {n z a : Int} (hn : 0 < n) (hz : 0 < z) (ha : 0 < a) (h : a ≤ z + n) :
    0 < (a - (-n).fdiv a).fdiv (2 ^ Int.toNat 1) ∧ (a - (-n).fdiv a).fdiv (2 ^ Int.toNat 1) ≤ z + n ∧ (a = 0 ∨ (0 < a ∧ (a - (-n).fdiv a).fdiv (2 ^ Int.toNat 1) = sqStep n a)) := by
  rw [sq_walk ha]
  exact ⟨(sqStep_lo hn ha).1, sqStep_hi hn ha h hz, Or.inr ⟨ha, rfl⟩⟩
theorem sq_meas {n b a : Int} (hn : 0 < n) (ha : 0 < a) (hab : a ≠ b) : sqMeas n a ((a - (-n).fdiv a).fdiv (2 ^ Int.toNat 1)) < sqMeas n b a := by
  rw [sq_walk ha]
  exact sqMeas_less hn ha hab
theorem sq_out {n a b : Int} (ha : 0 < a) (h : b = 0 ∨ 0 < b ∧ a = sqStep n b) (e : a = b) : IsSq n a := by
  subst e
  rcases h with h | h
  · omega
  · exact ⟨ha, sqStep_fix ha h.2.symm⟩
end Mine
namespace Mine
theorem Fit.log2 {n : Nat} {x : Int} (h : Fit n x) (hn : n ≤ 1920) (h0 : 0 < n): x.natAbs.log2 < 1920 := by
  by_cases h1 : x.natAbs = 0
  · rw [h1]; decide +kernel
  · have := (Nat.log2_lt h1).mpr h
    omega
theorem Fit.len {n : Nat} {x : Int} (h : Fit n x) (hn : n ≤ 1920) (h0 : 0 < n) : ¬ (((Str.ofString (toString x)).length : Nat) : Int) ≥ 2 ^ 63 := by
  have e := int_text_length_le (k := 1920) (by decide) (h.log2 hn h0)
  rw [PySem.ofString_length]
  have : (2 : Int) ^ 63 = 9223372036854775808 := by decide
  omega
/-- len(str(x)) -/
def nd (x : Int) : Nat := (Str.ofString (toString x)).length
theorem nd_le {x : Int} {k : Nat} (hx : 0 ≤ x) (hk : 0 < k) : nd x ≤ k ↔ x < 10 ^ k := by
  unfold nd
  rw [PySem.ofString_length]
  obtain ⟨m, rfl⟩ := Int.eq_ofNat_of_zero_le hx
  have e : toString (Int.ofNat m) = Nat.repr m := rfl
  show (toString (Int.ofNat m)).length ≤ k ↔ _
  rw [e, Nat.length_repr_le_iff hk]
  have : ((10 : Int) ^ k) = ((10 ^ k : Nat) : Int) := by simp
  rw [this]
  omega
theorem nd_eq {x : Int} {k : Nat} (h1 : 10 ^ k ≤ x) (h2 : x < 10 ^ (k + 1)) : nd x = k + 1 := by
  have h0 : (0 : Int) < 10 ^ k := Int.pow_pos (by decide)
  have a := (nd_le (x := x) (k := k + 1) (by omega) (by omega)).mpr h2
  rcases Nat.eq_zero_or_pos k with hk | hk
  · subst hk
    have : 0 < nd x := by
      unfold nd
      rw [PySem.ofString_length]
      obtain ⟨m, rfl⟩ := Int.eq_ofNat_of_zero_le (show 0 ≤ x by omega)
      have e : toString (Int.ofNat m) = Nat.repr m := rfl
      show 0 < (toString (Int.ofNat m)).length
      rw [e]
      exact Nat.length_repr_pos
    omega
  · have b := mt (nd_le (x := x) (k := k) (by omega) hk).mp (by omega)
    omega
/-- the reductions of _ilog: RedTo x M R y: y after R turns -/
inductive RedTo (x M : Int) : Nat → Int → Prop where
  | zero : RedTo x M 0 (x - M)
  | succ {R : Nat} {y s : Int} : RedTo x M R y → M * 2 ^ R ≤ 256 * (y.natAbs : Int) → IsSq (M * (M + divN y (2 ^ R))) s → RedTo x M (R + 1) (divN (M * y * 2) (M + s))
/-- the terms of the series -/
def tays (p : Nat) : Nat := (10 * (p + 1) + 23) / 24
/-- the Horner loop -/
def horn (M ys w : Int) (ks : List Int) : Int := ks.foldl (fun w k => divN M k - divN (ys * w) M) w
end Mine
namespace Mine
theorem divN_bounds (a : Int) {b : Int} (hb : 0 < b) : 2 * a - b ≤ 2 * (divN a b * b) ∧ 2 * (divN a b * b) ≤ 2 * a + b := by
  unfold divN
  have e1 := Int.mul_ediv_add_emod a b
  have e2 := Int.emod_nonneg a (b := b) (by omega)
  have e3 := Int.emod_lt_of_pos a hb
  generalize hq : a / b = q at *
  generalize hr : a % b = r at *
  have e4 : (q + 1) * b = b * q + b := by grind
  have e5 : q * b = b * q := Int.mul_comm _ _
  split
  · rw [e4]; omega
  · rw [Int.add_zero, e5]; omega
theorem divN_abs (a : Int) {b : Int} (hb : 0 < b) : (divN a b).natAbs ≤ a.natAbs := by
  have e1 := Int.mul_ediv_add_emod a b
  have e2 := Int.emod_nonneg a (b := b) (by omega)
  have e3 := Int.emod_lt_of_pos a hb
  unfold divN
  generalize hq : a / b = q at *
  generalize hr : a % b = r at *
  rcases Int.lt_or_le q 0 with h | h
  · have h2 : b * (q + 1) ≤ 1 * (q + 1) := by
      have : (b - 1) * (q + 1) ≤ 0 := Int.mul_nonpos_of_nonneg_of_nonpos (by omega) (by omega)
      grind
    have e4 : b * (q + 1) = b * q + b := by grind
    split
    · omega
    · rcases Int.lt_or_le b 2 with hb2 | hb2
      · have : b = 1 := by omega
        subst this; omega
      · omega
  · have h2 : q ≤ b * q := by
      have : 1 * q ≤ b * q := Int.mul_le_mul_of_nonneg_right (by omega) h
      omega
    split
    · have : 0 < r := by
        rcases Int.lt_or_le 0 r with h3 | h3
        · exact h3
        · have : r = 0 := by omega
          subst this
          have : b = 1 := by omega
          subst this
          omega
      omega
    · omega
theorem Fit.divN {k : Nat} {a b : Int} (h : Fit k a) (hb : 0 < b) : Fit k (divN a b) :=
  Nat.lt_of_le_of_lt (divN_abs a hb) h
theorem IsSq.le {n s : Int} (h : IsSq n s) : s ≤ n := by
  obtain ⟨h1, h2, h3⟩ := h
  rcases Int.lt_or_le s 2 with h | h
  · have : s = 1 := by omega
    subst this; omega
  · have : 2 * s ≤ s * s := Int.mul_le_mul_of_nonneg_right h (by omega)
    omega
theorem Fit.sq {k : Nat} {n s : Int} (h : Fit k n) (hs : IsSq n s) : Fit k s := by
  have := hs.le
  have := hs.1
  unfold Fit at *; omega
theorem Fit.abs {k : Nat} {y : Int} (h : Fit k y) : Fit k (if y < 0 then -y else y) := by
  split
  · exact h.neg
  · exact h
theorem Fit.shl {k : Nat} {y n : Int} (h : Fit k y) (hn : n ≤ 100) (hk : k ≤ 1000000) : (Builtin.Int.intBits y : Int) + n ≤ 2 ^ 27 := by
  have := h.bits
  have : (2 : Int) ^ 27 = 134217728 := by decide
  omega
theorem Fit.two (k : Nat) (hk : k ≤ 100) : Fit 200 (2 ^ k) := by
  unfold Fit
  have : ((2 : Int) ^ k).natAbs = 2 ^ k := by
    rw [Int.natAbs_pow]; rfl
  rw [this]
  exact Nat.pow_lt_pow_right (by decide) (by omega)
end Mine
namespace Mine
/-- what the walk of _ilog asks of the reductions -/
def RedOk (x M : Int) : Prop := ∀ R y, RedTo x M R y → R ≤ 14 ∧ -(10 * M) ≤ y ∧ y ≤ 10 * M ∧ 0 < M + divN y (2 ^ R)
theorem il_start {x M : Int} (h : RedOk x M) : (0 : Int) ≤ 0 ∧ (0 : Int) ≤ 14 ∧ -(10 * M) ≤ x - M ∧ x - M ≤ 10 * M ∧ 0 < M + divN (x - M) (2 ^ Int.toNat 0) ∧ RedTo x M (Int.toNat 0) (x - M) := by
  have h1 := h 0 _ RedTo.zero
  exact ⟨by decide, by decide, h1.2.1, h1.2.2.1, h1.2.2.2, RedTo.zero⟩
end Mine
namespace Mine
theorem IsSq.pos {n s : Int} (h : IsSq n s) : 0 < s := h.1
theorem abs_if (y : Int) : (if y < 0 then -y else y) = (y.natAbs : Int) := by split <;> omega
theorem cond1 {y M R : Int} (h0 : 0 ≤ R) (h8 : R ≤ 8) : M ≤ (if y < 0 then -y else y) * 2 ^ (8 - R).toNat ↔ M * 2 ^ R.toNat ≤ 256 * (y.natAbs : Int) := by
  rw [abs_if]
  have e : (256 : Int) = 2 ^ (8 - R).toNat * 2 ^ R.toNat := by
    rw [← Int.pow_add, show (8 - R).toNat + R.toNat = 8 by omega]; rfl
  have hp : (0 : Int) < 2 ^ R.toNat := Int.pow_pos (by decide)
  rw [e]
  generalize (2 : Int) ^ R.toNat = u at *
  generalize (2 : Int) ^ (8 - R).toNat = v at *
  rw [show v * u * (y.natAbs : Int) = ((y.natAbs : Int) * v) * u by grind]
  exact ⟨fun h => Int.mul_le_mul_of_nonneg_right h (by omega), fun h => Int.le_of_mul_le_mul_right h hp⟩
theorem cond2 {y M R : Int} (h8 : 8 < R) : M ≤ (if y < 0 then -y else y).fdiv (2 ^ (R - 8).toNat) ↔ M * 2 ^ R.toNat ≤ 256 * (y.natAbs : Int) := by
  rw [abs_if]
  have e : (2 : Int) ^ R.toNat = 256 * 2 ^ (R - 8).toNat := by
    rw [show (256 : Int) = 2 ^ 8 by rfl, ← Int.pow_add, show 8 + (R - 8).toNat = R.toNat by omega]
  have hp : (0 : Int) < 2 ^ (R - 8).toNat := Int.pow_pos (by decide)
  rw [e, Int.fdiv_eq_ediv_of_nonneg _ (by omega)]
  generalize (2 : Int) ^ (R - 8).toNat = u at *
  rw [Int.le_ediv_iff_mul_le hp, show M * (256 * u) = 256 * (M * u) by grind]
  omega
theorem il_turn {x M R y s : Int} (h : RedOk x M) (h0 : 0 ≤ R) (hr : RedTo x M R.toNat y) (hc : M * 2 ^ R.toNat ≤ 256 * (y.natAbs : Int)) (hs : IsSq (M * (M + divN y (2 ^ R.toNat))) s) :
    0 ≤ R + 1 ∧ R + 1 ≤ 14 ∧ -(10 * M) ≤ divN (M * y * 2 ^ Int.toNat 1) (M + s) ∧ divN (M * y * 2 ^ Int.toNat 1) (M + s) ≤ 10 * M ∧ 0 < M + divN (divN (M * y * 2 ^ Int.toNat 1) (M + s)) (2 ^ (R + 1).toNat) ∧ RedTo x M (R + 1).toNat (divN (M * y * 2 ^ Int.toNat 1) (M + s)) := by
  have e : (R + 1).toNat = R.toNat + 1 := by omega
  have r := RedTo.succ hr hc hs
  have k := h _ _ r
  rw [e]
  exact ⟨by omega, by omega, k.2.1, k.2.2.1, k.2.2.2, r⟩
end Mine
namespace Mine
theorem T_walk {M : Int} {p : Nat} (hM : M = 10 ^ p) : -(-10 * ((Str.ofString (toString M)).length : Int)).fdiv (3 * 8) = (tays p : Int) := by
  have h : (Str.ofString (toString M)).length = p + 1 := by
    refine nd_eq (x := M) (k := p) (by omega) ?_
    rw [hM, Int.pow_succ]
    have : (0 : Int) < 10 ^ p := Int.pow_pos (by decide)
    omega
  rw [h, Int.fdiv_eq_ediv_of_nonneg _ (by decide)]
  unfold tays
  omega
theorem tays_pos (p : Nat) : 0 < tays p := by unfold tays; omega
theorem T_pos {M : Int} {p : Nat} (hM : M = 10 ^ p) : 0 < -(-10 * ((Str.ofString (toString M)).length : Int)).fdiv (3 * 8) := by
  rw [T_walk hM]; have := tays_pos p; omega
theorem Fit.nat {k : Nat} (n : Nat) (h : n < 2 ^ k) : Fit k (n : Int) := by
  unfold Fit; omega
theorem T_fit {M : Int} {p : Nat} (hM : M = 10 ^ p) (hp : p ≤ 1000) : Fit 20 (-(-10 * ((Str.ofString (toString M)).length : Int)).fdiv (3 * 8)) := by
  rw [T_walk hM]
  refine Fit.nat _ ?_
  unfold tays; omega
end Mine
namespace Mine
theorem divN_le {a b c : Int} (hb : 0 < b) (h : a ≤ c * b) : divN a b ≤ c := by
  have h1 := (divN_bounds a hb).2
  rcases Int.lt_or_le c (divN a b) with h2 | h2
  · exfalso
    have h3 : (c + 1) * b ≤ divN a b * b := Int.mul_le_mul_of_nonneg_right (by omega) (by omega)
    have h4 : (c + 1) * b = c * b + b := by grind
    omega
  · exact h2
theorem le_divN {a b c : Int} (hb : 0 < b) (h : c * b ≤ a) : c ≤ divN a b := by
  have h1 := (divN_bounds a hb).1
  rcases Int.lt_or_le (divN a b) c with h2 | h2
  · exfalso
    have h3 : divN a b * b ≤ (c - 1) * b := Int.mul_le_mul_of_nonneg_right (by omega) (by omega)
    have h4 : (c - 1) * b = c * b - b := by grind
    omega
  · exact h2
theorem ys_half {y M : Int} {R : Nat} (hM : 0 < M) (h : 256 * (y.natAbs : Int) < M * 2 ^ R) : -M ≤ 2 * divN y (2 ^ R) ∧ 2 * divN y (2 ^ R) ≤ M := by
  have hp : (0 : Int) < 2 ^ R := Int.pow_pos (by decide)
  have hb := divN_bounds y hp
  generalize (2 : Int) ^ R = u at *
  generalize divN y u = d at *
  -- |d| u ≤ |y| + u/2 < M u /256 + u/2
  constructor
  · rcases Int.lt_or_le (2 * d) (-M) with h2 | h2
    · exfalso
      have h3 : 2 * d * u ≤ (-M - 1) * u := Int.mul_le_mul_of_nonneg_right (by omega) (by omega)
      have h4 : (-M - 1) * u = -(M * u) - u := by grind
      have h5 : u ≤ M * u := by
        have : 1 * u ≤ M * u := Int.mul_le_mul_of_nonneg_right (by omega) (by omega)
        omega
      have h6 : 2 * d * u = 2 * (d * u) := by grind
      omega
    · exact h2
  · rcases Int.lt_or_le M (2 * d) with h2 | h2
    · exfalso
      have h3 : (M + 1) * u ≤ 2 * d * u := Int.mul_le_mul_of_nonneg_right (by omega) (by omega)
      have h4 : (M + 1) * u = M * u + u := by grind
      have h5 : u ≤ M * u := by
        have : 1 * u ≤ M * u := Int.mul_le_mul_of_nonneg_right (by omega) (by omega)
        omega
      have h6 : 2 * d * u = 2 * (d * u) := by grind
      omega
    · exact h2
theorem hs_start {y M T : Int} {R : Nat} (hM : 0 < M) (hT : 0 < T) (h : 256 * (y.natAbs : Int) < M * 2 ^ R) :
    divN M T = horn M (divN y (2 ^ R)) (divN M T) [] ∧ -(2 * M + 2) ≤ divN M T ∧ divN M T ≤ 2 * M + 2 ∧ -M ≤ 2 * divN y (2 ^ R) ∧ 2 * divN y (2 ^ R) ≤ M := by
  have h1 := divN_abs M hT
  have h2 := ys_half hM h
  refine ⟨rfl, by omega, by omega, h2.1, h2.2⟩
end Mine
namespace Mine
theorem T_hi {M : Int} {p : Nat} (hM : M = 10 ^ p) (hp : p ≤ 1000) : -(-10 * ((Str.ofString (toString M)).length : Int)).fdiv (3 * 8) ≤ 1000 := by
  rw [T_walk hM]; unfold tays; omega
end Mine
namespace Mine
theorem Fit.small {x : Int} (h1 : -1000000 ≤ x) (h2 : x ≤ 1000000) : Fit 20 x := by
  unfold Fit; omega
theorem hs_turn {M ys w0 w k : Int} {pre : List Int} (hM : 0 < M) (hk : 0 < k) (h : w = horn M ys w0 pre) (h1 : -(2 * M + 2) ≤ w) (h2 : w ≤ 2 * M + 2) (h3 : -M ≤ 2 * ys) (h4 : 2 * ys ≤ M) :
    divN M k - divN (ys * w) M = horn M ys w0 (pre ++ [k]) ∧ -(2 * M + 2) ≤ divN M k - divN (ys * w) M ∧ divN M k - divN (ys * w) M ≤ 2 * M + 2 ∧ -M ≤ 2 * ys ∧ 2 * ys ≤ M := by
  have e1 := divN_abs M hk
  have e0 : 0 ≤ divN M k := le_divN hk (by omega)
  have e2 : (2 * ys * w).natAbs ≤ M.natAbs * (2 * M + 2).natAbs := by
    rw [Int.natAbs_mul]
    exact Nat.mul_le_mul (by omega) (by omega)
  have e3 : ((M.natAbs * (2 * M + 2).natAbs : Nat) : Int) = M * (2 * M + 2) := by
    rw [Int.natCast_mul]; congr 1 <;> omega
  have e4 : 2 * ys * w = 2 * (ys * w) := by grind
  have e5 : M * (2 * M + 2) = 2 * ((M + 1) * M) := by grind
  have e8 : (-(M + 1)) * M = -((M + 1) * M) := by grind
  have e6 : divN (ys * w) M ≤ M + 1 := divN_le hM (by omega)
  have e7 : -(M + 1) ≤ divN (ys * w) M := le_divN hM (by omega)
  refine ⟨?_, by omega, by omega, h3, h4⟩
  unfold horn at *
  rw [List.foldl_append, ← h]
  rfl
end Mine
namespace Mine
/-- what _ilog gives back -/
def ilTail (p : Nat) (M : Int) (R : Nat) (y : Int) : Int := divN (horn M (divN y (2 ^ R)) (divN M (tays p)) (downKs ((tays p : Int) - 1) (tays p - 1)) * y) M
def IsIlog (p : Nat) (x M r : Int) : Prop := ∃ R y, RedTo x M R y ∧ 256 * (y.natAbs : Int) < M * 2 ^ R ∧ r = ilTail p M R y
theorem il_end {p : Nat} {x M R y w : Int} (hM : M = 10 ^ p) (hr : RedTo x M R.toNat y) (hc : 256 * (y.natAbs : Int) < M * 2 ^ R.toNat)
    (hw : w = horn M (divN y (2 ^ R.toNat)) (divN M (-(-10 * ((Str.ofString (toString M)).length : Int)).fdiv (3 * 8))) (downKs (-(-10 * ((Str.ofString (toString M)).length : Int)).fdiv (3 * 8) - 1) (-(-10 * ((Str.ofString (toString M)).length : Int)).fdiv (3 * 8) - 1 - 0).toNat)) :
    IsIlog p x M (divN (w * y) M) := by
  refine ⟨_, _, hr, hc, ?_⟩
  rw [T_walk hM] at hw
  rw [hw]
  unfold ilTail
  rw [show ((tays p : Int) - 1 - 0).toNat = tays p - 1 by omega]
end Mine
namespace Mine
def dlC (c k : Int) : Int := if 0 ≤ k then c * 10 ^ k.toNat else divN c (10 ^ (-k).toNat)
theorem Fit.ten {k : Nat} {x : Int} (hx : x = 10 ^ k) (hk : k ≤ 300) : Fit 1200 x := by
  unfold Fit
  rw [hx, Int.natAbs_pow]
  have h1 : (10 : Int).natAbs = 10 := rfl
  rw [h1]
  have : (10 : Nat) ^ k ≤ 16 ^ k := Nat.pow_le_pow_left (by decide) k
  have h2 : (16 : Nat) ^ k = 2 ^ (4 * k) := by rw [Nat.pow_mul]
  have : (2 : Nat) ^ (4 * k) < 2 ^ (4 * 300 + 1) := Nat.pow_lt_pow_right (by decide) (by omega)
  have h3 : (10 : Nat) ^ k < 2 ^ 1200 ∨ True := Or.inr trivial
  rcases Nat.lt_or_ge k 300 with h | h
  · have : (2 : Nat) ^ (4 * k) < 2 ^ 1200 := Nat.pow_lt_pow_right (by decide) (by omega)
    omega
  · have : k = 300 := by omega
    subst this
    exact (by decide +kernel : (10:Nat) ^ 300 < 2 ^ 1200)
end Mine
namespace Mine
theorem dlC_pos {c k : Int} (h : 0 ≤ k) : dlC c k = c * 10 ^ k.toNat := if_pos h
theorem dlC_neg {c k : Int} (h : ¬ 0 ≤ k) : dlC c k = divN c (10 ^ (-k).toNat) := if_neg h
theorem ilR1 {c K : Int} {n : Nat} (h : 0 ≤ K) (hR : RedOk (dlC c K) (10 ^ n)) : RedOk (c * 10 ^ K.toNat) (10 ^ (n : Int).toNat) := by
  rw [dlC_pos h] at hR; exact hR
theorem ilR2 {c K : Int} {n : Nat} (h : ¬ 0 ≤ K) (hR : RedOk (dlC c K) (10 ^ n)) : RedOk (divN c (10 ^ (-K).toNat)) (10 ^ (n : Int).toNat) := by
  rw [dlC_neg h] at hR; exact hR
end Mine
namespace Mine
theorem ten_nat (n : Nat) : (10 : Int) ^ (n : Int).toNat = 10 ^ n := by rw [Int.toNat_natCast]
theorem ten_fit {n : Nat} (h : n ≤ 200) : Fit 1500 (20 * (10 : Int) ^ (n : Int).toNat) :=
  Fit.mono (Fit.mul (n := 20) (Fit.small (by decide) (by decide)) (Fit.ten (ten_nat n) (by omega))) (by decide)
end Mine

end
section
open PySem PySem.W PyProof.Rows
namespace Mine
theorem Fit.powOk {k : Nat} {x n : Int} (h : Fit k x) (hn : 0 ≤ n ∧ n ≤ 10000) (hk : k ≤ 10000) : (Builtin.Int.intBits x : Int) * n ≤ 2 ^ 27 := by
  have h1 := h.bits
  have h2 : (Builtin.Int.intBits x : Int) * n ≤ 10000 * 10000 := Int.mul_le_mul (by omega) hn.2 hn.1 (by decide)
  have : (2 : Int) ^ 27 = 134217728 := by decide
  omega
end Mine

end
section
open PySem PySem.W PyProof.Rows
namespace Mine
section
variable {M : Model} {A : Around} {E : Value → Shared → Prop} {s : Shared} {env : Env} {Q : Unit → Shared → Prop}
theorem fmod_rng {D b : Int} (hb : 0 < b) : 0 ≤ D.fmod b ∧ D.fmod b < b := by
  rw [Int.fmod_eq_emod_of_nonneg _ (by omega)]
  exact ⟨Int.emod_nonneg _ (by omega), Int.emod_lt_of_pos _ hb⟩
end
end Mine
namespace Mine
end Mine

end
section
open PySem PySem.W PyProof.Rows
namespace Mine
/-- the Taylor loop of _iexp: y after i turns -/
def ieT (Ms x : Int) (T : Nat) : Nat → Int
  | 0 => divN x T
  | i + 1 => divN (x * (Ms + ieT Ms x T i)) (Ms * ((T : Int) - 1 - i))
/-- the doublings: y after j turns -/
def ieD (M y0 : Int) (R : Nat) : Nat → Int
  | 0 => y0
  | j + 1 => divN (ieD M y0 R j * (ieD M y0 R j + M * 2 ^ (R + 1 - j))) (M * 2 ^ (R + 1 - j))
def ieY (p : Nat) (x M : Int) (R : Nat) : Int := ieT (M * 2 ^ R) x (tays p) (tays p - 1)
/-- what the walk of _iexp asks -/
def IeOk (p : Nat) (x M : Int) : Prop := ∀ R : Nat, 256 * x < M * 2 ^ R → (R = 0 ∨ M * 2 ^ R ≤ 512 * x) → R ≤ 12 ∧ ∀ j, j ≤ R → 0 ≤ ieD M (ieY p x M R) R j ∧ ieD M (ieY p x M R) R j ≤ 20000 * M
def IsIexp (p : Nat) (x M r : Int) : Prop := ∃ R : Nat, 256 * x < M * 2 ^ R ∧ (R = 0 ∨ M * 2 ^ R ≤ 512 * x) ∧ r = M + ieD M (ieY p x M R) R R
theorem bits_R {a : Int} (ha : 0 ≤ a) : a < 2 ^ (Builtin.Int.intBits a) ∧ (Builtin.Int.intBits a = 0 ∨ 2 ^ (Builtin.Int.intBits a) ≤ 2 * a) := by
  unfold Builtin.Int.intBits
  split
  · rename_i h
    have : a = 0 := by simpa using h
    subst this
    exact ⟨by decide, Or.inl rfl⟩
  · rename_i h
    have h0 : a.natAbs ≠ 0 := by intro e; apply h; simp; omega
    have h1 := (Nat.log2_lt h0).mp (Nat.lt_succ_self _)
    have h2 := Nat.log2_self_le h0
    refine ⟨?_, Or.inr ?_⟩
    · have : ((a.natAbs : Nat) : Int) < ((2 ^ (a.natAbs.log2 + 1) : Nat) : Int) := by exact_mod_cast h1
      rw [show ((2 ^ (a.natAbs.log2 + 1) : Nat) : Int) = 2 ^ (a.natAbs.log2 + 1) by push_cast; rfl] at this
      omega
    · have : ((2 ^ a.natAbs.log2 : Nat) : Int) ≤ ((a.natAbs : Nat) : Int) := by exact_mod_cast h2
      rw [show ((2 ^ a.natAbs.log2 : Nat) : Int) = 2 ^ a.natAbs.log2 by push_cast; rfl] at this
      rw [Int.pow_succ]
      omega
theorem ie_R {x M : Int} (hM : 0 < M) (hx : 0 ≤ x) {R : Nat} (hR : Builtin.Int.intBits ((x * 2 ^ Int.toNat 8).fdiv M) = R) : 256 * x < M * 2 ^ R ∧ (R = 0 ∨ M * 2 ^ R ≤ 512 * x) := by
  have e8 : (2 : Int) ^ Int.toNat 8 = 256 := by decide
  rw [e8, Int.fdiv_eq_ediv_of_nonneg _ (by omega)] at hR
  have h := bits_R (a := x * 256 / M) (Int.ediv_nonneg (by omega) (by omega))
  rw [hR] at h
  have e1 := Int.mul_ediv_add_emod (x * 256) M
  have e2 := Int.emod_nonneg (x * 256) (b := M) (by omega)
  have e3 := Int.emod_lt_of_pos (x * 256) hM
  generalize hq : x * 256 / M = q at *
  generalize hp : (2 : Int) ^ R = P at *
  have m1 : M * (q + 1) ≤ M * P := Int.mul_le_mul_of_nonneg_left (by omega) (by omega)
  have e4 : M * (q + 1) = M * q + M := by grind
  refine ⟨by omega, ?_⟩
  rcases h.2 with h | h
  · exact Or.inl h
  · right
    have m2 : M * P ≤ M * (2 * q) := Int.mul_le_mul_of_nonneg_left h (by omega)
    have e5 : M * (2 * q) = 2 * (M * q) := by grind
    omega
theorem ieT_bound {Ms x y k : Int} (hx : 0 ≤ x) (hM : 256 * x < Ms) (hk : 0 < k) (h0 : 0 ≤ y) (h1 : y ≤ 2 * x) : 0 ≤ divN (x * (Ms + y)) (Ms * k) ∧ divN (x * (Ms + y)) (Ms * k) ≤ 2 * x := by
  have hMk : 0 < Ms * k := Int.mul_pos (by omega) hk
  have hMk2 : Ms ≤ Ms * k := by
    have := Int.mul_le_mul_of_nonneg_left (show 1 ≤ k by omega) (show 0 ≤ Ms by omega)
    omega
  constructor
  · exact le_divN hMk (by have := Int.mul_nonneg hx (show 0 ≤ Ms + y by omega); omega)
  · refine divN_le hMk ?_
    have a := Int.mul_le_mul_of_nonneg_left (show Ms + y ≤ 2 * Ms by omega) hx
    have b := Int.mul_le_mul_of_nonneg_left hMk2 (show 0 ≤ 2 * x by omega)
    have e : x * (2 * Ms) = 2 * x * Ms := by grind
    omega
/-- the start of the Taylor loop -/
theorem ieT_start {Ms x : Int} {T : Nat} (hx : 0 ≤ x) (hT : 0 < T) : divN x T = ieT Ms x T ([] : List Int).length ∧ 0 ≤ divN x T ∧ divN x T ≤ 2 * x := by
  refine ⟨rfl, le_divN (by omega) (by omega), divN_le (by omega) ?_⟩
  have := Int.mul_le_mul_of_nonneg_left (show (1 : Int) ≤ T by omega) (show 0 ≤ 2 * x by omega)
  omega
theorem ieT_turn {Ms x y k : Int} {T : Nat} {pre : List Int} (hx : 0 ≤ x) (hM : 256 * x < Ms) (hk0 : 0 < k) (hk : k = (T : Int) - 1 - (pre.length : Int)) (h : y = ieT Ms x T pre.length) (h0 : 0 ≤ y) (h1 : y ≤ 2 * x) :
    divN (x * (Ms + y)) (Ms * k) = ieT Ms x T (pre ++ [k]).length ∧ 0 ≤ divN (x * (Ms + y)) (Ms * k) ∧ divN (x * (Ms + y)) (Ms * k) ≤ 2 * x := by
  refine ⟨?_, ieT_bound hx hM hk0 h0 h1⟩
  rw [List.length_append, List.length_singleton, ieT, ← h, hk]
theorem ieD_turn {M y0 y k : Int} {R : Nat} {pre : List Int} (hk0 : 0 ≤ k) (hk : k = (R : Int) - 1 - (pre.length : Int)) (h : y = ieD M y0 R pre.length) (hok : ∀ j, j ≤ R → 0 ≤ ieD M y0 R j ∧ ieD M y0 R j ≤ 20000 * M) :
    divN (y * (y + M * 2 ^ (k + 2).toNat)) (M * 2 ^ (k + 2).toNat) = ieD M y0 R (pre ++ [k]).length ∧ 0 ≤ divN (y * (y + M * 2 ^ (k + 2).toNat)) (M * 2 ^ (k + 2).toNat) ∧ divN (y * (y + M * 2 ^ (k + 2).toNat)) (M * 2 ^ (k + 2).toNat) ≤ 20000 * M := by
  have e : (k + 2).toNat = R + 1 - pre.length := by omega
  have e2 : divN (y * (y + M * 2 ^ (k + 2).toNat)) (M * 2 ^ (k + 2).toNat) = ieD M y0 R (pre.length + 1) := by rw [ieD, ← h, e]
  have o := hok (pre.length + 1) (by omega)
  rw [e2, List.length_append, List.length_singleton]
  exact ⟨rfl, o⟩
end Mine
namespace Mine
section
variable {M : Model} {A : Around} {E : Value → Shared → Prop} {s : Shared} {env : Env} {Q : Unit → Shared → Prop}
theorem st_T {e : Int} {T : Nat} {t : Tok} (he : e = (T : Int)) (h : wpAny M A (storeName env (Str.ofString "T") (.int (T : Int) t)) Q E s) : wpAny M A (storeName env (Str.ofString "T") (.int e t)) Q E s := by
  rw [he]; exact h
theorem st_R {n R : Nat} {t : Tok} (he : n = R) (h : wpAny M A (storeName env (Str.ofString "R") (.int (R : Int) t)) Q E s) : wpAny M A (storeName env (Str.ofString "R") (.int (n : Int) t)) Q E s := by
  rw [he]; exact h
end
end Mine
namespace Mine
theorem ie_dstart {M x y : Int} {R T : Nat} (h : y = ieT (M * 2 ^ R) x T (downKs ((T : Int) - 1) ((T : Int) - 1 - 0).toNat).length) (h0 : 0 ≤ y) (h1 : y ≤ 2 * x) (hx : x ≤ 4 * M) :
    y = ieD M (ieT (M * 2 ^ R) x T (T - 1)) R ([] : List Int).length ∧ 0 ≤ y ∧ y ≤ 20000 * M := by
  refine ⟨?_, h0, by omega⟩
  rw [downKs_length] at h
  show y = ieT (M * 2 ^ R) x T (T - 1)
  rw [h]; congr 1; omega
theorem ie_end {p : Nat} {x M y : Int} {R T : Nat} (hT : tays p = T) (h1 : 256 * x < M * 2 ^ R) (h2 : R = 0 ∨ M * 2 ^ R ≤ 512 * x) (h : y = ieD M (ieT (M * 2 ^ R) x T (T - 1)) R (downKs ((R : Int) - 1) ((R : Int) - 1 - -1).toNat).length) : IsIexp p x M (M + y) := by
  refine ⟨R, h1, h2, ?_⟩
  rw [downKs_length] at h
  rw [h, ieY, hT]
  congr 2; omega
end Mine
namespace Mine
section
variable {M : Model} {A : Around} {E : Value → Shared → Prop} {s : Shared} {env : Env} {Q : Unit → Shared → Prop}
theorem st_Ms {m : Int} {R : Nat} {t : Tok} (h : wpAny M A (storeName env (Str.ofString "Mshift") (.int (m * 2 ^ R) t)) Q E s) : wpAny M A (storeName env (Str.ofString "Mshift") (.int (m * 2 ^ (R : Int).toNat) t)) Q E s := by
  rw [Int.toNat_natCast]; exact h
end
end Mine

end
section
open PySem PySem.W PyProof.Rows
namespace Mine
theorem top_meth {K : Frag} {h₀ h : Heap} {L q : Addr} {m : Str → Option Value} {f self : Value} (X : K.In h₀) (F : Fr h₀ L h m) (hk : K.lookup q = some (methodObj f self)) : h.get? q = some (methodObj f self) := (X.keeps F.keep) _ _ hk
/-- the digits of log 10 that the memo holds -/
def l10 (p : Nat) : Int := 23025850929940456840179914546843642076011014886 / 10 ^ (46 - p)
end Mine
namespace Mine
open PySem PySem.W PyProof.Rows
theorem dig_text0 : ∀ p : Fin 47, PySem.intText? (Txt.slice (Str.ofString "23025850929940456840179914546843642076011014886") none (some (((p : Nat) : Int) + 1))) = some (l10 p) := by decide +kernel
theorem dig_len0 : ∀ p : Fin 47, (Txt.slice (Str.ofString "23025850929940456840179914546843642076011014886") none (some (((p : Nat) : Int) + 1))).length ≤ 47 := by decide +kernel
theorem dig_text {p : Int} (h0 : 0 ≤ p) (h1 : p ≤ 46) : PySem.intText? (Txt.slice (Str.ofString "23025850929940456840179914546843642076011014886") none (some (p + 1))) = some (l10 p.toNat) := by
  have := dig_text0 ⟨p.toNat, by omega⟩
  rw [show ((p.toNat : Nat) : Int) = p by omega] at this
  exact this
theorem dig_len {p : Int} (h0 : 0 ≤ p) (h1 : p ≤ 46) : (Txt.slice (Str.ofString "23025850929940456840179914546843642076011014886") none (some (p + 1))).length ≤ 47 := by
  have := dig_len0 ⟨p.toNat, by omega⟩
  rw [show ((p.toNat : Nat) : Int) = p by omega] at this
  exact this
end Mine
namespace Mine
open PySem PySem.W PyProof.Rows
section
variable {M : Model} {A : Around} {E : Value → Shared → Prop} {s : Shared} {env : Env} {Q : Unit → Shared → Prop}
theorem st_eq {x : Str} {a b : Int} {t : Tok} (he : a = b) (h : wpAny M A (storeName env x (.int b t)) Q E s) : wpAny M A (storeName env x (.int a t)) Q E s := by
  rw [he]; exact h
end
/-- f of _dlog -/
def dlF (c e : Int) : Int := e + nd c - (if decide (1 ≤ e + (nd c : Int)) = true then 1 else 0)
/-- what _dlog adds for the power of ten -/
def dlT (f : Int) (n : Nat) : Int := if f = 0 then 0 else divN (f * l10 (n + (nd (f.natAbs : Int) - 1))) (10 ^ (nd (f.natAbs : Int) - 1))
def IsDlog (n : Nat) (c e r : Int) : Prop := ∃ d, IsIlog n (dlC c (e + n - dlF c e)) (10 ^ n) d ∧ r = divN (dlT (dlF c e) n + d) 100
theorem l10_fit (p : Nat) : Fit 160 (l10 p) := by
  have h : (0 : Int) ≤ l10 p := Int.ediv_nonneg (by decide) (Int.le_of_lt (Int.pow_pos (by decide)))
  have h2 : l10 p ≤ 23025850929940456840179914546843642076011014886 := by
    unfold l10
    exact Int.ediv_le_self _ (by decide)
  have e : Fit 160 (23025850929940456840179914546843642076011014886 : Int) := by unfold Fit; decide +kernel
  exact Fit.of_le e (by omega) h2
theorem nd_pos (x : Int) (h : 0 ≤ x) : 1 ≤ nd x := by
  unfold nd
  rw [PySem.ofString_length]
  obtain ⟨m, rfl⟩ := Int.eq_ofNat_of_zero_le h
  have e : toString (Int.ofNat m) = Nat.repr m := rfl
  show 1 ≤ (toString (Int.ofNat m)).length
  rw [e]
  exact Nat.length_repr_pos
theorem dl_k1 {c K d : Int} {n : Nat} (h : 0 ≤ K) (hd : IsIlog n (c * 10 ^ K.toNat) (10 ^ (n : Int).toNat) d) : IsIlog n (dlC c K) (10 ^ n) d := by
  rw [dlC_pos h]; exact hd
theorem dl_k2 {c K d : Int} {n : Nat} (h : ¬ 0 ≤ K) (hd : IsIlog n (divN c (10 ^ (-K).toNat)) (10 ^ (n : Int).toNat) d) : IsIlog n (dlC c K) (10 ^ n) d := by
  rw [dlC_neg h]; exact hd
theorem dl_t0 {n : Nat} {f : Int} (h : f = 0) : 0 = dlT f n := by rw [dlT, if_pos h]
theorem dl_t1 {n ex : Nat} {f : Int} (h : f ≠ 0) (he : nd (f.natAbs : Int) - 1 = ex) : divN (f * l10 ((n : Int) + (ex : Int)).toNat) (10 ^ (ex : Int).toNat) = dlT f n := by
  rw [dlT, if_neg h, he, Int.toNat_natCast, show ((n : Int) + (ex : Int)).toNat = n + ex by omega]
theorem dl_fin {n : Nat} {c e f K d t r : Int} (hf : dlF c e = f) (hK : e + (n : Int) - f = K) (hd : IsIlog n (dlC c K) (10 ^ n) d) (ht : t = dlT f n) (hr : r = divN (t + d) 100) : IsDlog n c e r := by
  refine ⟨d, ?_, ?_⟩
  · rw [hf, hK]; exact hd
  · rw [hf, ← ht]; exact hr
end Mine
namespace Mine
open PySem PySem.W PyProof.Rows
section
variable {M : Model} {A : Around} {E : Value → Shared → Prop} {s : Shared} {K : Frag} {env : Env} {pos : Pos} {first : List Value} {Q : Value → Shared → Prop}
/-- a call of a method that the top has bound -/
theorem callWith_T {h₀ : Heap} {q g : Addr} {self : Value} {e : Expr} {rest : List Expr} (_X : K.In h₀) (hq : K.lookup q = some (methodObj (.ref g) self)) (hf : fnIn K g = true) (h : wpAny M A (spliced (backTo pos (starEach (e :: rest) env))) (fun vs s₁ => K.In s₁.heap ∧ wpAny M A (call (.ref q) (first ++ vs)) Q E s₁) E s)
    (he : starEach (e :: rest) env = (false, eval e env) :: starEach rest env := by rfl) (hplain : (backTo pos (starEach rest env)).any (·.1) = false := by rfl) :
    wpAny M A (callWith pos (.ref q) first (backTo pos (starEach (e :: rest) env)) []) Q E s := by
  rw [he] at h ⊢
  exact callWith_of (P := fun hh => K.In hh) (by show ((false || (backTo pos (starEach rest env)).any (·.1)) || false) = false; rw [hplain]; rfl) (fun hh X => keeps_M hf hh ⟨X _ _ hq, X⟩) (PySem.Calls.evalArgs_plain h)
end
end Mine

end
section
open PySem PySem.W PyProof.Rows
namespace Mine
/-- extra, cshift, quot, rem of _dexp -/
def dxE (c e : Int) : Nat := (e + nd c - 1).toNat
def dxC (n : Nat) (c e : Int) : Int := if 0 ≤ e + ((n + dxE c e : Nat) : Int) then c * 10 ^ (e + ((n + dxE c e : Nat) : Int)).toNat else c / 10 ^ (-(e + ((n + dxE c e : Nat) : Int))).toNat
def dxR (n : Nat) (c e : Int) : Int := divN (dxC n c e % l10 (n + dxE c e)) (10 ^ dxE c e)
def IsDexp (n : Nat) (c e d f : Int) : Prop := ∃ E, IsIexp n (dxR n c e) (10 ^ n) E ∧ d = divN E 1000 ∧ f = dxC n c e / l10 (n + dxE c e) - n + 3
/-- a call that gives back a pair of ints -/
abbrev ConP (prog : Program) (w : World) (K : Frag) (p : Program) (loose : List Str) (mean : ExcName → Option Value) (mg mb : Str → Option Value) (d : Nat) (f : Addr) (vs : List Value) (P : Int → Int → Prop) : Prop :=
  ∀ (news : List (Addr × Obj)) (dp un : Nat) (gd : Option (List Code)) (cn : Str) (cs : Scope) (a : Addr) (ccd : Value) (cl : List (Str × Addr)) (outer : List Env) (A₀ : Around) (base h₀ : Heap) (L : Addr) (m : Str → Option Value) (s : Shared) (Q E : Value → Shared → Prop),
    Below A₀ base outer h₀ → Fr h₀ L s.heap m → K.In h₀ → News h₀ L s.heap news → Top p loose mean mg mb h₀ → cs.kind = .function →
    dp + d < recursionLimit → un + 8 * d < cLine →
    (∀ (r₁ r₂ : Int) (t₁ t₂ : Tok) (D : Addr) (h' : Heap) (tk' : Nat), P r₁ r₂ → Fr h₀ L h' m → News h₀ L h' ((D, ({ cls := .type "tuple", data := .seq [.int r₁ t₁, .int r₂ t₂].toArray } : Obj)) :: news) → (∀ p ∈ news, p.1 < D) → Q (.ref D) { s with heap := h', toks := tk' }) →
      wpAny (model prog w) (ktrTop dp un gd cn cs L a ccd cl outer) (call (.ref f) vs) Q E s
end Mine
namespace Mine
open PySem PySem.W PyProof.Rows
theorem dx_e {c e : Int} : (if e + ((Str.ofString (toString c)).length : Int) - 1 > 0 then e + ((Str.ofString (toString c)).length : Int) - 1 else 0) = ((dxE c e : Nat) : Int) := by
  have : ((Str.ofString (toString c)).length) = nd c := rfl
  rw [this]; unfold dxE
  split <;> omega
theorem dx_q {n ex : Nat} : (n : Int) + (ex : Int) = ((n + ex : Nat) : Int) := by omega
theorem dx_c1 {n : Nat} {c e S : Int} (hS : e + ((n + dxE c e : Nat) : Int) = S) (h : 0 ≤ S) : c * 10 ^ S.toNat = dxC n c e := by
  unfold dxC; rw [hS, if_pos h]
theorem dx_c2 {n : Nat} {c e S : Int} (hS : e + ((n + dxE c e : Nat) : Int) = S) (h : ¬ 0 ≤ S) : c.fdiv (10 ^ (-S).toNat) = dxC n c e := by
  unfold dxC; rw [hS, if_neg h, Int.fdiv_eq_ediv_of_nonneg _ (Int.le_of_lt (Int.pow_pos (by decide)))]
theorem dx_r {n : Nat} {c e : Int} (hl : 0 < l10 (n + dxE c e)) : divN ((dxC n c e).fmod (l10 ((n + dxE c e : Nat) : Int).toNat)) (10 ^ ((dxE c e : Nat) : Int).toNat) = dxR n c e := by
  unfold dxR
  rw [Int.toNat_natCast, Int.toNat_natCast, Int.fmod_eq_emod_of_nonneg _ (by omega)]
theorem dx_end {n : Nat} {c e E : Int} (hl : 0 < l10 (n + dxE c e)) (hE : IsIexp n (dxR n c e) (10 ^ (n : Int).toNat) E) : IsDexp n c e (divN E 1000) ((dxC n c e).fdiv (l10 ((n + dxE c e : Nat) : Int).toNat) - (n : Int) + 3) := by
  refine ⟨E, hE, rfl, ?_⟩
  rw [Int.toNat_natCast, Int.fdiv_eq_ediv_of_nonneg _ (by omega)]
end Mine
namespace Mine
open PySem PySem.W PyProof.Rows
theorem con_retP {h₀ h' : Heap} {L D : Addr} {m : Str → Option Value} {news news' : List (Addr × Obj)} {s : Shared} {Q : Value → Shared → Prop} {P : Int → Int → Prop} {r₁ r₂ : Int} {t₁ t₂ : Tok} {tk' : Nat}
   (hret : ∀ (r₁ r₂ : Int) (t₁ t₂ : Tok) (D : Addr) (h' : Heap) (tk' : Nat), P r₁ r₂ → Fr h₀ L h' m → News h₀ L h' ((D, ({ cls := .type "tuple", data := .seq [.int r₁ t₁, .int r₂ t₂].toArray } : Obj)) :: news) → (∀ p ∈ news, p.1 < D) → Q (.ref D) { s with heap := h', toks := tk' })
   (hp : P r₁ r₂) (F : Fr h₀ L h' m) (N : News h₀ L h' news') (hs1 : (D, ({ cls := .type "tuple", data := .seq [.int r₁ t₁, .int r₂ t₂].toArray } : Obj)) ∈ news') (hl : ∀ p ∈ news, p.1 < D) (hs : ∀ p ∈ news, p ∈ news') : Q (.ref D) { s with heap := h', toks := tk' } :=
  hret _ _ _ _ _ _ _ hp F (fun p hp => N p (by rcases List.mem_cons.mp hp with rfl | hp; exact hs1; exact hs p hp)) hl
end Mine
namespace Mine
open PySem PySem.W PyProof.Rows
theorem allLt_to {d : Nat} : ∀ {l : List (Addr × Obj)}, AllLt d l → ∀ p ∈ l, p.1 < d
  | [], _, _, h => nomatch h
  | _ :: _, h, p, hp => by
    rcases List.mem_cons.mp hp with rfl | hp
    · exact h.1
    · exact allLt_to h.2 p hp
end Mine

end
section
open PySem PySem.W PyProof.Rows
namespace Mine
section
variable {M : Model} {A : Around} {E : Value → Shared → Prop}
/-- the counter of tokens is of no use: any other will do -/
theorem tk_drop {α : Type} {x : Sem α} {Q : α → Shared → Prop} {h : Heap} {g : Array GenState} {d : Drawn} {o : OsState} {t : Nat} (H : ∀ tk : Nat, wpAny M A x Q E { heap := h, gens := g, drawn := d, toks := tk, os := o }) : wpAny M A x Q E { heap := h, gens := g, drawn := d, toks := t + 1, os := o } := H _
theorem st_drop {env : Env} {n : Str} {v : Int} {t : Nat} {Q : Unit → Shared → Prop} {s : Shared} (H : ∀ tk : Tok, wpAny M A (storeName env n (.int v tk)) Q E s) : wpAny M A (storeName env n (.int v (t + 1 : Nat))) Q E s := H _
end
end Mine

end
end
section
namespace Mine
/-! the reductions of _ilog against the logarithm -/
section
variable {M x y s : Int} {R : Nat}
theorem c2pos (R : Nat) : (0 : Rat) < 2 ^ R := Rat.pow_pos (by decide)
theorem cast_two_pow (R : Nat) : (((2 : Int) ^ R : Int) : Rat) = (2 : Rat) ^ R := by
  rw [Rat.intCast_pow]; rfl
/-- divN in the rationals -/
theorem divN_rat (a : Int) {b : Int} (hb : 0 < b) : -(1 / 2 : Rat) ≤ (divN a b : Rat) - (a : Rat) / b ∧ (divN a b : Rat) - (a : Rat) / b ≤ 1 / 2 := by
  obtain ⟨h1, h2⟩ := divN_bounds a hb
  have hb' : (0 : Rat) < b := by exact_mod_cast hb
  have g1 : (2 : Rat) * a - b ≤ 2 * (divN a b * b) := by exact_mod_cast h1
  have g2 : (2 : Rat) * (divN a b * b) ≤ 2 * a + b := by exact_mod_cast h2
  have e := fld3 (A := (b : Rat)) (B := (a : Rat)) hb'
  generalize (divN a b : Rat) = d at *
  generalize (a : Rat) / b = q at *
  constructor
  · rcases rlt_or_le (d - q) (-(1 / 2)) with h | h
    · have := Rat.mul_lt_mul_of_pos_right h hb'
      grind
    · exact h
  · rcases rlt_or_le (1 / 2) (d - q) with h | h
    · have := Rat.mul_lt_mul_of_pos_right h hb'
      grind
    · exact h
end
/-- one reduction in the rationals: v, w = s / M, v' -/
theorem red_core {m v w v' r a δ κ : Rat} (hm : 0 < m) (hw : 0 < w) (ha : a * (1 + w) = v) (hv' : v' = a + δ) 
    (hr1 : -κ ≤ r - v) (hr2 : r - v ≤ κ) (hs1 : w * w - 1 - r ≤ w / m) (hs2 : -(w / m) ≤ w * w - 1 - r) :
    ∃ η : Rat, (1 + v) - (1 + v') * (1 + v') = a * η - 2 * (1 + v') * δ + δ * δ ∧ -(w / m + κ) ≤ η * (1 + w) ∧ η * (1 + w) ≤ w / m + κ := by
  refine ⟨(w * w - 1 - v) / (1 + w), ?_, ?_, ?_⟩
  · subst hv'
    have hw1 : 1 + w ≠ 0 := by grind
    have e : a * ((w * w - 1 - v) / (1 + w)) = a * (w - 1 - a) := by
      rw [← ha]
      grind
    rw [e, ← ha]
    grind
  · have : (w * w - 1 - v) / (1 + w) * (1 + w) = w * w - 1 - v := fld3 (by grind)
    grind
  · have : (w * w - 1 - v) / (1 + w) * (1 + w) = w * w - 1 - v := fld3 (by grind)
    grind
end Mine

end
section
namespace Mine
/-- v = y / (2^R M) -/
def vr (M : Int) (R : Nat) (y : Int) : Rat := (y : Rat) / (2 ^ R * M)
theorem rabs_mul {a b A B : Rat} (h1 : -A ≤ a) (h2 : a ≤ A) (h3 : -B ≤ b) (h4 : b ≤ B) : -(A * B) ≤ a * b ∧ a * b ≤ A * B := by
  have c1 := Rat.mul_nonneg (show 0 ≤ A - a by grind) (show 0 ≤ B - b by grind)
  have c2 := Rat.mul_nonneg (show 0 ≤ A - a by grind) (show 0 ≤ B + b by grind)
  have c3 := Rat.mul_nonneg (show 0 ≤ A + a by grind) (show 0 ≤ B - b by grind)
  have c4 := Rat.mul_nonneg (show 0 ≤ A + a by grind) (show 0 ≤ B + b by grind)
  constructor <;> grind
theorem divN_one (y : Int) : divN y 1 = y := by
  unfold divN
  rw [Int.ediv_one, Int.emod_one]
  split
  · omega
  · omega
theorem fld4 {P m t y' z : Rat} (hP : 0 < P) (hm : 0 < m) (ht : 0 < t) : 4 * (P * m) * (y' / (P * 2 * m) - z / (P * m) / (1 + t / m)) = 2 * (y' - m * z * 2 / (m + t)) := by
  have h1 : P ≠ 0 := by grind
  have h2 : m ≠ 0 := by grind
  have h3 : m + t ≠ 0 := by grind
  have h4 : 1 + t / m ≠ 0 := by
    have := rdiv_pos ht hm
    grind
  have e1 : 4 * (P * m) * (y' / (P * 2 * m)) = 2 * y' := by grind
  have e2 : (1 + t / m) * m = m + t := by grind
  have e3 : z / (P * m) / (1 + t / m) * ((P * m) * (m + t)) = m * z := by
    rw [← e2]
    have : z / (P * m) / (1 + t / m) * (1 + t / m) = z / (P * m) := by grind
    have k : z / (P * m) / (1 + t / m) * (P * m * ((1 + t / m) * m)) = (z / (P * m) / (1 + t / m) * (1 + t / m)) * (P * m) * m := by grind
    rw [k, this]
    have : z / (P * m) * (P * m) = z := by
      have : P * m ≠ 0 := by grind
      grind
    rw [this]; grind
  have e4 : z / (P * m) / (1 + t / m) * (P * m) = m * z / (m + t) := by
    generalize z / (P * m) / (1 + t / m) = X at *
    grind
  have e5 : 4 * (P * m) * (z / (P * m) / (1 + t / m)) = 4 * (m * z / (m + t)) := by rw [← e4]; grind
  have e6 : m * z * 2 / (m + t) = 2 * (m * z / (m + t)) := by grind
  rw [e6]
  generalize y' / (P * 2 * m) = A at *
  generalize z / (P * m) / (1 + t / m) = B at *
  generalize m * z / (m + t) = D at *
  have e7 : 4 * (P * m) * (A - B) = 4 * (P * m) * A - 4 * (P * m) * B := by grind
  rw [e7, e1, e5]
  grind
/-- the facts of one reduction -/
theorem step_facts {M y s : Int} {R : Nat} (hM : 0 < M) (hs : IsSq (M * (M + divN y (2 ^ R))) s) (κ : Rat) (hκ : κ = 1 / 2 ∨ (R = 0 ∧ κ = 0)) :
    ∃ a δ η : Rat, vr M (R + 1) (divN (M * y * 2) (M + s)) = a + δ ∧ -1 ≤ 4 * (2 ^ R * M) * δ ∧ 4 * (2 ^ R * M) * δ ≤ 1 ∧
      (1 + vr M R y) - (1 + vr M (R + 1) (divN (M * y * 2) (M + s))) * (1 + vr M (R + 1) (divN (M * y * 2) (M + s))) = a * η - 2 * (1 + vr M (R + 1) (divN (M * y * 2) (M + s))) * δ + δ * δ ∧
      -((s : Rat) / M + κ) ≤ η * (1 + (s : Rat) / M) * M ∧ η * (1 + (s : Rat) / M) * M ≤ (s : Rat) / M + κ := by
  have hm : (0 : Rat) < M := by exact_mod_cast hM
  have hs0 : (0 : Rat) < s := by exact_mod_cast hs.1
  have hP := c2pos R
  have hw : 0 < (s : Rat) / M := rdiv_pos hs0 hm
  have d1 := divN_rat (M * y * 2) (b := M + s) (by have := hs.1; omega)
  -- the root
  have q1 : (s : Rat) * s - s ≤ M * (M + divN y (2 ^ R)) := by
    have := hs.2.1
    have h : s * s - s ≤ M * (M + divN y (2 ^ R)) := by omega
    exact_mod_cast h
  have q2 : (M : Rat) * (M + divN y (2 ^ R)) ≤ (s : Rat) * s + s := by exact_mod_cast hs.2.2
  have hr : -κ ≤ (divN y (2 ^ R) : Rat) - (y : Rat) / 2 ^ R ∧ (divN y (2 ^ R) : Rat) - (y : Rat) / 2 ^ R ≤ κ := by
    rcases hκ with h | ⟨h0, h⟩
    · have := divN_rat y (b := 2 ^ R) (Int.pow_pos (by decide))
      rw [cast_two_pow] at this
      rw [h]
      constructor <;> grind
    · subst h0 h
      rw [show (2 : Int) ^ 0 = 1 from rfl, divN_one, Rat.pow_zero]
      constructor <;> grind
  generalize (divN y (2 ^ R) : Rat) = ρ at *
  generalize hy' : (divN (M * y * 2) (M + s) : Rat) = y' at *
  have eM : (((M * y * 2 : Int) : Rat)) = M * y * 2 := by push_cast; rfl
  have eS : (((M + s : Int) : Rat)) = M + s := by push_cast; rfl
  rw [eM, eS] at d1
  unfold vr
  rw [hy', Rat.pow_succ]
  generalize (2 : Rat) ^ R = P at *
  generalize (M : Rat) = m at *
  generalize (s : Rat) = t at *
  generalize (y : Rat) = z at *
  have hm0 : m ≠ 0 := by grind
  have hP0 : P ≠ 0 := by grind
  have hPm : 0 < P * m := Rat.mul_pos hP hm
  have hw1 : 0 < 1 + t / m := by grind
  have core := red_core (m := m) (v := z / (P * m)) (w := t / m) (v' := y' / (P * 2 * m)) (r := ρ / m) (a := z / (P * m) / (1 + t / m)) (δ := y' / (P * 2 * m) - z / (P * m) / (1 + t / m)) (κ := κ / m) hm hw (fld3 hw1) (by grind)
    (by
      have e : ρ / m - z / (P * m) = (ρ - z / P) / m := by grind
      rw [e]
      refine le_rdiv hm ?_
      have : -(κ / m) * m = -κ := by grind
      grind)
    (by
      have e : ρ / m - z / (P * m) = (ρ - z / P) / m := by grind
      rw [e]
      refine rdiv_le hm ?_
      have : κ / m * m = κ := by grind
      grind)
    (by
      have e : t / m * (t / m) - 1 - ρ / m = (t * t - m * (m + ρ)) / (m * m) := by grind
      rw [e]
      refine rdiv_le (Rat.mul_pos hm hm) ?_
      have : t / m / m * (m * m) = t := by grind
      grind)
    (by
      have e : t / m * (t / m) - 1 - ρ / m = (t * t - m * (m + ρ)) / (m * m) := by grind
      rw [e]
      refine le_rdiv (Rat.mul_pos hm hm) ?_
      have : -(t / m / m) * (m * m) = -t := by grind
      grind)
  obtain ⟨η, c1, c2, c3⟩ := core
  refine ⟨z / (P * m) / (1 + t / m), y' / (P * 2 * m) - z / (P * m) / (1 + t / m), η, by grind, ?_, ?_, c1, ?_, ?_⟩
  · rw [fld4 hP hm hs0]; grind
  · rw [fld4 hP hm hs0]; grind
  · have h := Rat.mul_le_mul_of_nonneg_right c2 (Rat.le_of_lt hm)
    have e : -(t / m / m + κ / m) * m = -(t / m + κ) := by grind
    grind
  · have h := Rat.mul_le_mul_of_nonneg_right c3 (Rat.le_of_lt hm)
    have e : (t / m / m + κ / m) * m = t / m + κ := by grind
    grind
end Mine

end
section
namespace Mine
theorem rpow_add (a : Rat) (m : Nat) : ∀ n : Nat, a ^ (m + n) = a ^ m * a ^ n
  | 0 => by rw [Nat.add_zero, Rat.pow_zero, Rat.mul_one]
  | n + 1 => by rw [← Nat.add_assoc, Rat.pow_succ, Rat.pow_succ, rpow_add a m n]; grind
def Qr (x M : Int) (R : Nat) (y : Int) : Rat := ((x : Rat) / M) / (1 + vr M R y) ^ (2 ^ R : Nat)
/-- log (x / M) lies within A of 2^R log (1 + v) -/
def IlInv (x M : Int) (R : Nat) (y : Int) (A : Rat) : Prop := 0 < 1 + vr M R y ∧ Lg (-A) (Qr x M R y) ∧ Ug A (Qr x M R y)
theorem IlInv.zero {x M : Int} (hM : 0 < M) (hx : 0 < x) : IlInv x M 0 (x - M) 0 := by
  have hm : (0 : Rat) < M := by exact_mod_cast hM
  have hx' : (0 : Rat) < x := by exact_mod_cast hx
  have e : 1 + vr M 0 (x - M) = (x : Rat) / M := by
    unfold vr
    rw [Rat.pow_zero]
    have : (((x - M : Int)) : Rat) = x - M := by push_cast; rfl
    rw [this]
    have : (M : Rat) ≠ 0 := by grind
    grind
  have hp : 0 < (x : Rat) / M := rdiv_pos hx' hm
  have q : Qr x M 0 (x - M) = 1 := by
    unfold Qr
    rw [e, show (2 : Nat) ^ 0 = 1 from rfl, Rat.pow_succ, Rat.pow_zero]
    have : (x : Rat) / M ≠ 0 := by grind
    grind
  refine ⟨by rw [e]; exact hp, ?_, ?_⟩
  · rw [q]; exact Lg.zero.mono (by grind) (by grind)
  · rw [q]; exact Ug.zero
theorem IlInv.step {x M y y' : Int} {R : Nat} {A n l : Rat} (h : IlInv x M R y A) (hv' : 0 < 1 + vr M (R + 1) y') (hl : 0 < l) (hn : 0 ≤ n) (l1 : l ≤ 1 + vr M R y) (l2 : l ≤ (1 + vr M (R + 1) y') * (1 + vr M (R + 1) y'))
    (h1 : -n ≤ (1 + vr M R y) - (1 + vr M (R + 1) y') * (1 + vr M (R + 1) y')) (h2 : (1 + vr M R y) - (1 + vr M (R + 1) y') * (1 + vr M (R + 1) y') ≤ n) : IlInv x M (R + 1) y' (A + 2 ^ R * (n / l)) := by
  obtain ⟨h0, hL, hU⟩ := h
  generalize ha : 1 + vr M R y = a at *
  generalize hb : 1 + vr M (R + 1) y' = b at *
  have hbb : 0 < b * b := Rat.mul_pos hv' hv'
  have hρ : 0 < a / (b * b) := rdiv_pos h0 hbb
  have hnl : 0 ≤ n / l := le_rdiv hl (by grind)
  have nl : n / l * l = n := fld3 hl
  have bL : Lg (-(n / l)) (a / (b * b)) := by
    refine (Lg.basic (t := b * b / a) (rdiv_pos hbb h0) ?_).mono ?_ Rat.le_refl
    · rw [rdiv_mul hbb]
      have : a / a = 1 := by have : a ≠ 0 := by grind
                             grind
      grind
    · have : b * b / a ≤ 1 + n / l := by
        refine rdiv_le h0 ?_
        have := Rat.mul_nonneg hnl (show 0 ≤ a - l by grind)
        grind
      grind
  have bU : Ug (n / l) (a / (b * b)) := by
    refine (Ug.basic hρ).mono ?_ Rat.le_refl
    have : a / (b * b) ≤ 1 + n / l := by
      refine rdiv_le hbb ?_
      have := Rat.mul_nonneg hnl (show 0 ≤ b * b - l by grind)
      grind
    grind
  have eQ : Qr x M (R + 1) y' = Qr x M R y * (a / (b * b)) ^ (2 ^ R : Nat) := by
    unfold Qr
    rw [ha, hb]
    have e1 : b ^ (2 ^ (R + 1) : Nat) = (b * b) ^ (2 ^ R : Nat) := by
      rw [rmul_pow, ← rpow_add]
      congr 1
      rw [Nat.pow_succ]; omega
    have e2 : a ^ (2 ^ R : Nat) = (a / (b * b)) ^ (2 ^ R : Nat) * (b * b) ^ (2 ^ R : Nat) := by
      rw [← rmul_pow, fld3 hbb]
    rw [e1, e2]
    have p1 : (a / (b * b)) ^ (2 ^ R : Nat) ≠ 0 := by have := rpow_pos hρ (2 ^ R); grind
    have p2 : (b * b) ^ (2 ^ R : Nat) ≠ 0 := by have := rpow_pos hbb (2 ^ R); grind
    generalize (a / (b * b)) ^ (2 ^ R : Nat) = U at *
    generalize (b * b) ^ (2 ^ R : Nat) = V at *
    generalize (x : Rat) / M = X at *
    grind
  have cst : (((2 ^ R : Nat)) : Rat) = (2 : Rat) ^ R := by push_cast; rfl
  refine ⟨by rw [hb]; exact hv', ?_, ?_⟩
  · rw [eQ]
    refine (Lg.add hL (Lg.pow bL (2 ^ R))).mono ?_ Rat.le_refl
    rw [cst]; grind
  · rw [eQ]
    refine (Ug.add (rpow_pos hρ _) hU (Ug.pow hρ bU (2 ^ R))).mono ?_ Rat.le_refl
    rw [cst]; grind
/-- what comes of it: log (x / M) from 2^R log (1 + v) -/
theorem IlInv.lo {x M y : Int} {R : Nat} {A r : Rat} (h : IlInv x M R y A) (hr : Lg r (1 + vr M R y)) : Lg (2 ^ R * r - A) ((x : Rat) / M) := by
  obtain ⟨h0, hL, hU⟩ := h
  have p := rpow_pos h0 (2 ^ R)
  have e : Qr x M R y * (1 + vr M R y) ^ (2 ^ R : Nat) = (x : Rat) / M := fld3 p
  have cst : (((2 ^ R : Nat)) : Rat) = (2 : Rat) ^ R := by push_cast; rfl
  have k := Lg.add hL (Lg.pow hr (2 ^ R))
  rw [e, cst] at k
  exact k.mono (by grind) Rat.le_refl
theorem IlInv.hi {x M y : Int} {R : Nat} {A r : Rat} (h : IlInv x M R y A) (hr : Ug r (1 + vr M R y)) : Ug (2 ^ R * r + A) ((x : Rat) / M) := by
  obtain ⟨h0, hL, hU⟩ := h
  have p := rpow_pos h0 (2 ^ R)
  have e : Qr x M R y * (1 + vr M R y) ^ (2 ^ R : Nat) = (x : Rat) / M := fld3 p
  have cst : (((2 ^ R : Nat)) : Rat) = (2 : Rat) ^ R := by push_cast; rfl
  have k := Ug.add p hU (Ug.pow h0 hr (2 ^ R))
  rw [e, cst] at k
  exact k.mono (by grind) Rat.le_refl
end Mine

end
section
namespace Mine
open PySem.W
theorem cast_k {M : Int} (h : 1000 ≤ M) : (1000 : Rat) ≤ M := by
  have := Rat.intCast_le_intCast.mpr h
  rwa [show (((1000 : Int)) : Rat) = 1000 from rfl] at this
theorem downKs_succ (a : Int) (n : Nat) : downKs a (n + 1) = downKs a n ++ [a - n] := by
  unfold downKs
  rw [List.range_succ, List.map_append]; rfl
theorem horn_succ (M ys w a : Int) (n : Nat) : horn M ys w (downKs a (n + 1)) = divN M (a - n) - divN (ys * horn M ys w (downKs a n)) M := by
  rw [downKs_succ]; unfold horn; rw [List.foldl_append]; rfl
/-- the ideal Horner -/
def idU (v : Rat) (T : Nat) : Nat → Rat
  | 0 => 1 / (T : Rat)
  | i + 1 => 1 / ((T - 1 - i : Nat) : Rat) - v * idU v T i
theorem idU_lgS (v : Rat) (T : Nat) : ∀ i : Nat, i + 1 ≤ T → lgS v T - lgS v (T - 1 - i) = -((-v) ^ (T - i)) * idU v T i
  | 0, h => by
    obtain ⟨S, rfl⟩ : ∃ S, T = S + 1 := ⟨T - 1, by omega⟩
    simp only [idU, Nat.sub_zero, Nat.add_sub_cancel, lgS]
    push_cast
    grind
  | i + 1, h => by
    have ih := idU_lgS v T i (by omega)
    obtain ⟨S, hS⟩ : ∃ S, T - 1 - i = S + 1 := ⟨T - 1 - i - 1, by omega⟩
    have e1 : T - 1 - (i + 1) = S := by omega
    have e2 : T - (i + 1) = S + 1 := by omega
    have e3 : T - i = S + 1 + 1 := by omega
    rw [hS, e3] at ih
    rw [e1, e2]
    simp only [idU, hS]
    simp only [lgS] at ih
    rw [Rat.pow_succ (-v) (S + 1)] at ih
    push_cast at ih ⊢
    generalize (-v) ^ (S + 1) = X at *
    have hS0 : (S : Rat) + 1 ≠ 0 := by
      have : (0 : Rat) ≤ S := Rat.natCast_nonneg
      grind
    grind
theorem idU_one (v : Rat) {T : Nat} (hT : 1 ≤ T) : v * idU v T (T - 1) = lgS v T := by
  have := idU_lgS v T (T - 1) (by omega)
  rw [show T - 1 - (T - 1) = 0 by omega, show T - (T - 1) = 1 by omega, Rat.pow_succ, Rat.pow_zero] at this
  simp only [lgS] at this
  grind
theorem one_div_le {n : Nat} (hn : 2 ≤ n) : 0 ≤ 1 / (n : Rat) ∧ 1 / (n : Rat) ≤ 1 / 2 := by
  have h : (2 : Rat) ≤ n := by exact_mod_cast hn
  exact ⟨le_rdiv (by grind) (by grind), rdiv_le (by grind) (by grind)⟩
/-- the Horner loop of ints against the ideal one -/
theorem horn_err {M ys : Int} {v κ : Rat} {T : Nat} (hM : 1000 ≤ M) (hT : 2 ≤ T) (hv1 : -(1 / 256) ≤ v) (hv2 : v ≤ 1 / 256)
    (hk0 : 0 ≤ κ) (hk1 : κ ≤ 1 / 2) (hy1 : -κ ≤ (ys : Rat) - v * M) (hy2 : (ys : Rat) - v * M ≤ κ) : ∀ i : Nat, i + 2 ≤ T →
    -(3 / 2 : Rat) ≤ (horn M ys (divN M T) (downKs ((T : Int) - 1) i) : Rat) - M * idU v T i ∧ (horn M ys (divN M T) (downKs ((T : Int) - 1) i) : Rat) - M * idU v T i ≤ 3 / 2 ∧ -(13 / 25 : Rat) ≤ idU v T i ∧ idU v T i ≤ 13 / 25
  | 0, h => by
    have d := divN_rat M (b := (T : Int)) (by omega)
    have o := one_div_le hT
    have e : horn M ys (divN M T) (downKs ((T : Int) - 1) 0) = divN M T := rfl
    rw [e]
    simp only [idU]
    have e2 : (M : Rat) * (1 / (T : Rat)) = (M : Rat) / ((T : Int) : Rat) := by
      rw [Rat.intCast_natCast]
      grind
    rw [e2]
    refine ⟨?_, ?_, ?_, ?_⟩ <;> grind
  | i + 1, h => by
    obtain ⟨a, b, c, d⟩ := horn_err hM hT hv1 hv2 hk0 hk1 hy1 hy2 i (by omega)
    rw [horn_succ]
    have k1 : (T : Int) - 1 - i = ((T - 1 - i : Nat) : Int) := by omega
    rw [k1]
    have d1 := divN_rat M (b := ((T - 1 - i : Nat) : Int)) (by omega)
    have d2 := divN_rat (ys * horn M ys (divN M T) (downKs ((T : Int) - 1) i)) (b := M) (by omega)
    have o := one_div_le (n := T - 1 - i) (by omega)
    have hm := cast_k hM
    simp only [idU]
    generalize horn M ys (divN M T) (downKs ((T : Int) - 1) i) = w at *
    have ec : (((ys * w : Int)) : Rat) = ys * w := by push_cast; rfl
    rw [ec] at d2
    rw [Rat.intCast_natCast] at d1
    have esub : (((divN M ((T - 1 - i : Nat) : Int) - divN (ys * w) M : Int)) : Rat) = (divN M ((T - 1 - i : Nat) : Int) : Rat) - (divN (ys * w) M : Rat) := by push_cast; rfl
    rw [esub]
    generalize (divN M ((T - 1 - i : Nat) : Int) : Rat) = D1 at *
    generalize (divN (ys * w) M : Rat) = D2 at *
    generalize idU v T i = U at *
    generalize hn : ((T - 1 - i : Nat) : Rat) = n at *
    generalize (ys : Rat) = z at *
    generalize (w : Rat) = W at *
    generalize (M : Rat) = m at *
    have hn1 : m * (1 / n) = m / n := by grind
    have hm0 : m ≠ 0 := by grind
    -- z W / m = v m U + (z/m)(W - m U) + (z - v m) U
    have ez : z * W / m = v * m * U + z / m * (W - m * U) + (z - v * m) * U := by grind
    have hz1 : -(1 / 200 : Rat) ≤ z / m := le_rdiv (by grind) (by
      have := Rat.mul_nonneg (show (0 : Rat) ≤ v + 1 / 256 by grind) (show (0 : Rat) ≤ m by grind)
      grind)
    have hz2 : z / m ≤ 1 / 200 := rdiv_le (by grind) (by
      have := Rat.mul_nonneg (show (0 : Rat) ≤ 1 / 256 - v by grind) (show (0 : Rat) ≤ m by grind)
      grind)
    have p1 := rabs_mul hz1 hz2 a b
    have p2 := rabs_mul (A := 1 / 2) (B := 13 / 25) (show -(1 / 2) ≤ z - v * m by grind) (by grind) c d
    have p3 := rabs_mul hv1 hv2 c d
    have em : m * (1 / n - v * U) = m / n - v * m * U := by grind
    rw [em]
    rw [ez] at d2
    generalize z / m * (W - m * U) = X1 at *
    generalize (z - v * m) * U = X2 at *
    refine ⟨?_, ?_, ?_, ?_⟩ <;> grind
/-- the last turn, and the product -/
theorem tail_err {M ys y : Int} {v κ : Rat} {T R : Nat} (hM : 1000 ≤ M) (hT : 2 ≤ T) (hv1 : -(1 / 256) ≤ v) (hv2 : v ≤ 1 / 256) (hvy : v * (2 ^ R * M) = y)
    (hk0 : 0 ≤ κ) (hk1 : κ ≤ 1 / 2) (hy1 : -κ ≤ (ys : Rat) - v * M) (hy2 : (ys : Rat) - v * M ≤ κ) {Y : Rat} (hY1 : -Y ≤ (y : Rat)) (hY2 : (y : Rat) ≤ Y) :
    -(1 / 2 + (51 / 100 + 13 / 25 * κ) * (Y / M)) ≤ (divN (horn M ys (divN M T) (downKs ((T : Int) - 1) (T - 1)) * y) M : Rat) - 2 ^ R * M * lgS v T ∧
    (divN (horn M ys (divN M T) (downKs ((T : Int) - 1) (T - 1)) * y) M : Rat) - 2 ^ R * M * lgS v T ≤ 1 / 2 + (51 / 100 + 13 / 25 * κ) * (Y / M) := by
  obtain ⟨a, b, c, d⟩ := horn_err hM hT hv1 hv2 hk0 hk1 hy1 hy2 (T - 2) (by omega)
  obtain ⟨S, rfl⟩ : ∃ S, T = S + 2 := ⟨T - 2, by omega⟩
  rw [show S + 2 - 1 = S + 1 by omega, horn_succ]
  rw [show S + 2 - 2 = S by omega] at a b c d
  have k1 : ((S + 2 : Nat) : Int) - 1 - (S : Nat) = 1 := by omega
  rw [k1, divN_one]
  have hI := idU_one v (T := S + 2) (by omega)
  rw [show S + 2 - 1 = S + 1 by omega] at hI
  have hm := cast_k hM
  simp only [idU] at hI
  rw [show S + 2 - 1 - S = 1 by omega] at hI
  generalize horn M ys (divN M ((S + 2 : Nat) : Int)) (downKs (((S + 2 : Nat) : Int) - 1) S) = w at *
  generalize idU v (S + 2) S = U at *
  have d2 := divN_rat (ys * w) (b := M) (by omega)
  have d3 := divN_rat ((M - divN (ys * w) M) * y) (b := M) (by omega)
  have ec : (((ys * w : Int)) : Rat) = ys * w := by push_cast; rfl
  rw [ec] at d2
  have ec2 : ((((M - divN (ys * w) M) * y : Int)) : Rat) = (M - divN (ys * w) M) * y := by push_cast; rfl
  rw [ec2] at d3
  generalize (divN ((M - divN (ys * w) M) * y) M : Rat) = D at *
  generalize (divN (ys * w) M : Rat) = D2 at *
  rw [← hI, show (((1 : Nat)) : Rat) = 1 from rfl]
  have e4 : 2 ^ R * M * (v * (1 / 1 - v * U)) = (v * (2 ^ R * M)) * (1 - v * U) := by grind
  rw [e4, hvy]
  generalize (y : Rat) = q at *
  generalize (ys : Rat) = z at *
  generalize (w : Rat) = W at *
  generalize (M : Rat) = m at *
  have hm0 : m ≠ 0 := by grind
  have ez : z * W / m = v * m * U + z / m * (W - m * U) + (z - v * m) * U := by grind
  have hz1 : -(1 / 200 : Rat) ≤ z / m := le_rdiv (by grind) (by
    have := Rat.mul_nonneg (show (0 : Rat) ≤ v + 1 / 256 by grind) (show (0 : Rat) ≤ m by grind)
    grind)
  have hz2 : z / m ≤ 1 / 200 := rdiv_le (by grind) (by
    have := Rat.mul_nonneg (show (0 : Rat) ≤ 1 / 256 - v by grind) (show (0 : Rat) ≤ m by grind)
    grind)
  have p1 := rabs_mul hz1 hz2 a b
  have p2 := rabs_mul hy1 hy2 c d
  rw [ez] at d2
  -- m - D2 = m (1 - v U) + small
  have hE1 : -(51 / 100 + 13 / 25 * κ) ≤ (m - D2) - m * (1 - v * U) := by grind
  have hE2 : (m - D2) - m * (1 - v * U) ≤ 51 / 100 + 13 / 25 * κ := by grind
  have hq1 : -(Y / m) ≤ q / m := by
    refine le_rdiv (by grind) ?_
    have : Y / m * m = Y := fld3 (by grind)
    grind
  have hq2 : q / m ≤ Y / m := by
    refine rdiv_le (by grind) ?_
    have : Y / m * m = Y := fld3 (by grind)
    grind
  have p3 := rabs_mul hE1 hE2 hq1 hq2
  have e5 : (m - D2) * q / m = q * (1 - v * U) + ((m - D2) - m * (1 - v * U)) * (q / m) := by grind
  rw [e5] at d3
  generalize ((m - D2) - m * (1 - v * U)) * (q / m) = X at *
  constructor <;> grind
end Mine

end
section
namespace Mine
open PySem.W
theorem vr_eq {M y : Int} {R : Nat} (hM : 0 < M) : vr M R y * (2 ^ R * M) = y := by
  have hm : (0 : Rat) < M := by exact_mod_cast hM
  exact fld3 (Rat.mul_pos (c2pos R) hm)
theorem step_N {M y s : Int} {R : Nat} {θ κ Y : Rat} (hM : 0 < M) (hs : IsSq (M * (M + divN y (2 ^ R))) s) (hκ : κ = 1 / 2 ∨ (R = 0 ∧ κ = 0))
    (hθ : (s : Rat) / M + κ ≤ θ * (1 + (s : Rat) / M)) (hY1 : -Y ≤ (divN (M * y * 2) (M + s) : Rat)) (hY2 : (divN (M * y * 2) (M + s) : Rat) ≤ Y)
    (hv' : 0 < 1 + vr M (R + 1) (divN (M * y * 2) (M + s))) :
    -(θ * (Y / (2 * M) + 1 / (4 * M)) + (1 + vr M (R + 1) (divN (M * y * 2) (M + s))) / 2 + 1 / (16 * M)) ≤ 2 ^ R * M * ((1 + vr M R y) - (1 + vr M (R + 1) (divN (M * y * 2) (M + s))) * (1 + vr M (R + 1) (divN (M * y * 2) (M + s)))) ∧
    2 ^ R * M * ((1 + vr M R y) - (1 + vr M (R + 1) (divN (M * y * 2) (M + s))) * (1 + vr M (R + 1) (divN (M * y * 2) (M + s)))) ≤ θ * (Y / (2 * M) + 1 / (4 * M)) + (1 + vr M (R + 1) (divN (M * y * 2) (M + s))) / 2 + 1 / (16 * M) := by
  obtain ⟨a, δ, η, f1, f2, f3, f4, f5, f6⟩ := step_facts hM hs κ hκ
  have hm : (0 : Rat) < M := by exact_mod_cast hM
  have hs0 : (0 : Rat) < s := by exact_mod_cast hs.1
  have hw : 0 < (s : Rat) / M := rdiv_pos hs0 hm
  have hP := c2pos R
  have hP1 : (1 : Rat) ≤ 2 ^ R := by
    have : ∀ R : Nat, (1 : Rat) ≤ 2 ^ R := by
      intro R
      induction R with
      | zero => rw [Rat.pow_zero]; grind
      | succ R ih => rw [Rat.pow_succ]; grind
    exact this R
  have ev := vr_eq (R := R + 1) (y := divN (M * y * 2) (M + s)) hM
  rw [Rat.pow_succ] at ev
  generalize hy' : divN (M * y * 2) (M + s) = y' at *
  generalize hvv : vr M (R + 1) y' = v' at *
  have hm2 : 0 < (2 : Rat) ^ R * M := Rat.mul_pos hP hm
  have hw1 : 0 < 1 + (s : Rat) / M := by grind
  -- |η| m ≤ θ
  have hη1 : -θ ≤ η * M := by
    rcases rlt_or_le (η * M) (-θ) with g | g
    · have := Rat.mul_lt_mul_of_pos_right g hw1
      grind
    · exact g
  have hη2 : η * M ≤ θ := by
    rcases rlt_or_le θ (η * M) with g | g
    · have := Rat.mul_lt_mul_of_pos_right g hw1
      grind
    · exact g
  -- P |a|
  have ha : a = v' - δ := by grind
  have hPa1 : -(Y / (2 * M) + 1 / (4 * M)) ≤ 2 ^ R * a := by
    have e1 : 2 ^ R * v' = (y' : Rat) / (2 * M) := by rw [← ev]; grind
    have e2 : (-Y) / (2 * M) ≤ (y' : Rat) / (2 * M) := by
      refine le_rdiv (by grind) ?_
      have : -Y / (2 * M) * (2 * (M : Rat)) = -Y := fld3 (by grind)
      grind
    have e3 : 2 ^ R * δ ≤ 1 / (4 * M) := by
      refine le_rdiv (by grind) ?_
      grind
    have e4 : (-Y) / (2 * M) = -(Y / (2 * M)) := by grind
    rw [ha]; grind
  have hPa2 : 2 ^ R * a ≤ Y / (2 * M) + 1 / (4 * M) := by
    have e1 : 2 ^ R * v' = (y' : Rat) / (2 * M) := by rw [← ev]; grind
    have e2 : (y' : Rat) / (2 * M) ≤ Y / (2 * M) := by
      refine rdiv_le (by grind) ?_
      have : Y / (2 * M) * (2 * (M : Rat)) = Y := fld3 (by grind)
      grind
    have e3 : -(1 / (4 * M)) ≤ 2 ^ R * δ := by
      rcases rlt_or_le (2 ^ R * δ) (-(1 / (4 * (M : Rat)))) with g | g
      · have := Rat.mul_lt_mul_of_pos_right g (show (0 : Rat) < 4 * M by grind)
        have : 1 / (4 * (M : Rat)) * (4 * M) = 1 := fld3 (by grind)
        grind
      · exact g
    rw [ha]; grind
  have p1 := rabs_mul hPa1 hPa2 hη1 hη2
  have p2 := rabs_mul (a := 1 + v') (A := 1 + v') (b := 4 * (2 ^ R * M) * δ) (B := 1) (by grind) Rat.le_refl (by grind) f3
  have p3 : 2 ^ R * M * (δ * δ) ≤ 1 / (16 * M) := by
    refine le_rdiv (by grind) ?_
    have q1 := rabs_mul (a := 4 * (2 ^ R * M) * δ) (A := 1) (b := 4 * (2 ^ R * M) * δ) (B := 1) (by grind) f3 (by grind) f3
    have q2 := rsq_nonneg δ
    have q3 : 2 ^ R * M * (δ * δ) * (16 * M) * 2 ^ R = (4 * (2 ^ R * M) * δ) * (4 * (2 ^ R * M) * δ) := by grind
    have q4 : 0 ≤ 2 ^ R * M * (δ * δ) * (16 * M) := Rat.mul_nonneg (Rat.mul_nonneg (Rat.le_of_lt hm2) q2) (by grind)
    have q5 := Rat.mul_nonneg q4 (show (0 : Rat) ≤ 2 ^ R - 1 by grind)
    grind
  have p4 : 0 ≤ 2 ^ R * M * (δ * δ) := Rat.mul_nonneg (Rat.le_of_lt hm2) (rsq_nonneg δ)
  generalize hB : θ * (Y / (2 * M) + 1 / (4 * M)) + (1 + v') / 2 + 1 / (16 * (M : Rat)) = B
  have hN1 : -B ≤ 2 ^ R * M * ((1 + vr M R y) - (1 + v') * (1 + v')) := by
    rw [f4]
    have : 2 ^ R * M * (a * η - 2 * (1 + v') * δ + δ * δ) = 2 ^ R * a * (η * M) - (1 + v') * (4 * (2 ^ R * M) * δ) / 2 + 2 ^ R * M * (δ * δ) := by grind
    rw [this]; grind
  have hN2 : 2 ^ R * M * ((1 + vr M R y) - (1 + v') * (1 + v')) ≤ B := by
    rw [f4]
    have : 2 ^ R * M * (a * η - 2 * (1 + v') * δ + δ * δ) = 2 ^ R * a * (η * M) - (1 + v') * (4 * (2 ^ R * M) * δ) / 2 + 2 ^ R * M * (δ * δ) := by grind
    rw [this]; grind
  exact ⟨hN1, hN2⟩
theorem step_gen {x M y s : Int} {R : Nat} {A θ κ Y l : Rat} (hM : 0 < M) (h : IlInv x M R y A) (hs : IsSq (M * (M + divN y (2 ^ R))) s) (hκ : κ = 1 / 2 ∨ (R = 0 ∧ κ = 0))
    (hθ : (s : Rat) / M + κ ≤ θ * (1 + (s : Rat) / M)) (hY1 : -Y ≤ (divN (M * y * 2) (M + s) : Rat)) (hY2 : (divN (M * y * 2) (M + s) : Rat) ≤ Y)
    (hv' : 0 < 1 + vr M (R + 1) (divN (M * y * 2) (M + s))) (hl : 0 < l) (l1 : l ≤ 1 + vr M R y) (l2 : l ≤ (1 + vr M (R + 1) (divN (M * y * 2) (M + s))) * (1 + vr M (R + 1) (divN (M * y * 2) (M + s)))) :
    IlInv x M (R + 1) (divN (M * y * 2) (M + s)) (A + (θ * (Y / (2 * M) + 1 / (4 * M)) + (1 + vr M (R + 1) (divN (M * y * 2) (M + s))) / 2 + 1 / (16 * M)) / (l * M)) := by
  obtain ⟨hN1, hN2⟩ := step_N hM hs hκ hθ hY1 hY2 hv'
  have hm : (0 : Rat) < M := by exact_mod_cast hM
  have hP := c2pos R
  have hm2 : 0 < (2 : Rat) ^ R * M := Rat.mul_pos hP hm
  generalize divN (M * y * 2) (M + s) = y' at *
  generalize hB : θ * (Y / (2 * M) + 1 / (4 * M)) + (1 + vr M (R + 1) y') / 2 + 1 / (16 * (M : Rat)) = B at *
  have hB0 : 0 ≤ B := by grind
  have st := IlInv.step (n := B / (2 ^ R * M)) h hv' hl (le_rdiv hm2 (by grind)) l1 l2 (by
      rcases rlt_or_le (1 + vr M R y - (1 + vr M (R + 1) y') * (1 + vr M (R + 1) y')) (-(B / (2 ^ R * M))) with g | g
      · have := Rat.mul_lt_mul_of_pos_right g hm2
        have : B / (2 ^ R * M) * (2 ^ R * M) = B := fld3 hm2
        grind
      · exact g) (le_rdiv hm2 (by grind))
  have e9 : 2 ^ R * (B / (2 ^ R * M) / l) = B / (l * M) := by
    have : (2 : Rat) ^ R ≠ 0 := by grind
    have : (M : Rat) ≠ 0 := by grind
    have : l ≠ 0 := by grind
    grind
  rw [e9] at st
  exact st
end Mine

end
section
namespace Mine
open PySem.W
theorem tays_two {p : Nat} (hp : 3 ≤ p) : 2 ≤ tays p := by unfold tays; omega
/-- 10 M is no more than 256^T -/
theorem tays_big (p : Nat) : (10 : Nat) ^ (p + 1) ≤ 256 ^ tays p := by
  have h : 10 * (p + 1) ≤ 24 * tays p := by unfold tays; omega
  have h1 : (10 ^ (p + 1)) ^ 3 ≤ ((256 : Nat) ^ tays p) ^ 3 := by
    have a1 : ((10 : Nat) ^ (p + 1)) ^ 3 = 1000 ^ (p + 1) := by rw [← Nat.pow_mul, Nat.mul_comm, Nat.pow_mul]
    have a2 : (1000 : Nat) ^ (p + 1) ≤ 1024 ^ (p + 1) := Nat.pow_le_pow_left (by decide) _
    have a3 : (1024 : Nat) ^ (p + 1) = 2 ^ (10 * (p + 1)) := by rw [Nat.pow_mul]
    have a4 : (2 : Nat) ^ (10 * (p + 1)) ≤ 2 ^ (24 * tays p) := Nat.pow_le_pow_right (by decide) h
    have a5 : (2 : Nat) ^ (24 * tays p) = (256 ^ tays p) ^ 3 := by
      rw [show (256 : Nat) = 2 ^ 8 from rfl, ← Nat.pow_mul, ← Nat.pow_mul]; congr 1; omega
    omega
  rcases Nat.lt_or_ge (256 ^ tays p) (10 ^ (p + 1)) with g | g
  · exfalso
    have := Nat.pow_lt_pow_left g (show 3 ≠ 0 by decide)
    omega
  · exact g
theorem rpow_le {a b : Rat} (h0 : 0 ≤ a) (h : a ≤ b) : ∀ n : Nat, a ^ n ≤ b ^ n ∧ 0 ≤ a ^ n
  | 0 => by rw [Rat.pow_zero, Rat.pow_zero]; grind
  | n + 1 => by
    obtain ⟨h1, h2⟩ := rpow_le h0 h n
    rw [Rat.pow_succ, Rat.pow_succ]
    have k1 := Rat.mul_nonneg (show 0 ≤ b ^ n - a ^ n by grind) (show 0 ≤ b by grind)
    have k2 := Rat.mul_nonneg h2 (show 0 ≤ b - a by grind)
    have k3 := Rat.mul_nonneg h2 h0
    constructor <;> grind
/-- what is cut off the series -/
theorem trunc_err {p R : Nat} {M y : Int} {Y : Rat} (hp : 3 ≤ p) (hM : M = 10 ^ p) (hY1 : -Y ≤ (y : Rat)) (hY2 : (y : Rat) ≤ Y) {u : Rat} (hu0 : 0 ≤ u) (hu : u * (2 ^ R * M) ≤ Y) (hu2 : u ≤ 1 / 256) :
    2 ^ R * M * (2 * u ^ (tays p + 1) / (tays p + 1)) ≤ 1 / 15 * (Y / M) := by
  have hT := tays_two hp
  have hb := tays_big p
  have hM0 : 0 < M := by rw [hM]; exact Int.pow_pos (by decide)
  have hm : (0 : Rat) < M := by exact_mod_cast hM0
  have hTq : (2 : Rat) ≤ tays p := by exact_mod_cast hT
  have hY0 : 0 ≤ Y := by grind
  have h1 := (rpow_le hu0 hu2 (tays p)).1
  have h0 := (rpow_le hu0 hu2 (tays p)).2
  have hbq : (10 : Rat) * M ≤ 256 ^ tays p := by
    have : ((10 ^ (p + 1) : Nat) : Rat) ≤ ((256 ^ tays p : Nat) : Rat) := by exact_mod_cast hb
    have e1 : ((10 ^ (p + 1) : Nat) : Rat) = 10 * M := by
      rw [hM, Rat.intCast_pow, show (((10 : Int)) : Rat) = 10 from rfl]
      push_cast
      rw [Rat.pow_succ]; grind
    have e2 : ((256 ^ tays p : Nat) : Rat) = 256 ^ tays p := by push_cast; rfl
    grind
  have e3 : (1 / 256 : Rat) ^ tays p * 256 ^ tays p = 1 := by
    rw [← rmul_pow, show (1 / 256 : Rat) * 256 = 1 by grind, one_rpow]
  have h2 : (1 / 256 : Rat) ^ tays p * (10 * M) ≤ 1 := by
    have := Rat.mul_le_mul_of_nonneg_left hbq (show (0 : Rat) ≤ (1 / 256) ^ tays p from Rat.le_of_lt (rpow_pos (by grind) _))
    grind
  have h3 : u ^ tays p * (10 * M) ≤ 1 := by
    have := Rat.mul_nonneg (show 0 ≤ (1 / 256 : Rat) ^ tays p - u ^ tays p by grind) (show (0 : Rat) ≤ 10 * M by grind)
    grind
  rw [Rat.pow_succ]
  have hn : 0 < (tays p : Rat) + 1 := by grind
  have e4 : 2 ^ R * M * (2 * (u ^ tays p * u) / (tays p + 1)) = 2 * (u * (2 ^ R * M)) * u ^ tays p / (tays p + 1) := by grind
  rw [e4]
  refine rdiv_le hn ?_
  have k1 := Rat.mul_nonneg (show 0 ≤ Y - u * (2 ^ R * M) by grind) h0
  have e5 : Y / M * M = Y := fld3 hm
  have hYM : 0 ≤ Y / M := le_rdiv hm (by grind)
  have k2 := Rat.mul_nonneg hYM (show 0 ≤ 1 - u ^ tays p * (10 * M) by grind)
  have k3 := Rat.mul_nonneg hYM (show 0 ≤ (tays p : Rat) + 1 - 3 by grind)
  generalize u ^ tays p = U at *
  generalize u * (2 ^ R * M) = W at *
  generalize Y / (M : Rat) = Z at *
  have e6 : Y * U = Z * (U * M) := by rw [← e5]; grind
  grind
theorem fin_lo {D Z κ A m P S t : Rat} (te : D - P * m * S ≤ 1 / 2 + (51 / 100 + 13 / 25 * κ) * Z) (tr : P * m * t ≤ 1 / 15 * Z) : D - (1 / 2 + (173 / 300 + 13 / 25 * κ) * Z + A * m) ≤ (P * (S - t) - A) * m := by
  have e : (P * (S - t) - A) * m = P * m * S - P * m * t - A * m := by grind
  rw [e]; grind
theorem fin_hi {D Z κ A m P S t : Rat} (te : -(1 / 2 + (51 / 100 + 13 / 25 * κ) * Z) ≤ D - P * m * S) (tr : P * m * t ≤ 1 / 15 * Z) : (P * (S + t) + A) * m ≤ D + (1 / 2 + (173 / 300 + 13 / 25 * κ) * Z + A * m) := by
  have e : (P * (S + t) + A) * m = P * m * S + P * m * t + A * m := by grind
  rw [e]; grind
/-- the answer of _ilog against the logarithm -/
theorem il_final {p R : Nat} {x M y : Int} {A Y κ : Rat} (hp : 3 ≤ p) (hM : M = 10 ^ p) (h : IlInv x M R y A) (hc : 256 * (y.natAbs : Int) < M * 2 ^ R)
    (hκ : κ = 1 / 2 ∨ (R = 0 ∧ κ = 0)) (hY1 : -Y ≤ (y : Rat)) (hY2 : (y : Rat) ≤ Y) :
    Lg (((ilTail p M R y : Rat) - (1 / 2 + (173 / 300 + 13 / 25 * κ) * (Y / M) + A * M)) / M) ((x : Rat) / M) ∧
    Ug (((ilTail p M R y : Rat) + (1 / 2 + (173 / 300 + 13 / 25 * κ) * (Y / M) + A * M)) / M) ((x : Rat) / M) := by
  have hM0 : 0 < M := by rw [hM]; exact Int.pow_pos (by decide)
  have hMk : 1000 ≤ M := by
    rw [hM]
    obtain ⟨q, rfl⟩ : ∃ q, p = 3 + q := ⟨p - 3, by omega⟩
    rw [Int.pow_add]
    have : (0 : Int) < 10 ^ q := Int.pow_pos (by decide)
    have : (10 : Int) ^ 3 = 1000 := by decide
    omega
  have hm : (0 : Rat) < M := by exact_mod_cast hM0
  have hP := c2pos R
  have hPm := Rat.mul_pos hP hm
  have hvy := vr_eq (R := R) (y := y) hM0
  generalize hv : vr M R y = v at *
  have hcq : 256 * (y : Rat) < M * 2 ^ R ∧ -(M * 2 ^ R) < 256 * (y : Rat) := by
    have c1 : 256 * y < M * 2 ^ R := by omega
    have c2 : -(M * 2 ^ R) < 256 * y := by omega
    have d1 := Rat.intCast_lt_intCast.mpr c1
    have d2 := Rat.intCast_lt_intCast.mpr c2
    have e1 : ((256 * y : Int) : Rat) = 256 * (y : Rat) := by rw [Rat.intCast_mul]; rfl
    have e2 : ((M * 2 ^ R : Int) : Rat) = M * 2 ^ R := by rw [Rat.intCast_mul, cast_two_pow]
    have e3 : ((-(M * 2 ^ R) : Int) : Rat) = -(M * 2 ^ R) := by rw [Rat.intCast_neg, e2]
    rw [e1, e2] at d1
    rw [e1, e3] at d2
    exact ⟨d1, d2⟩
  have hv2 : v ≤ 1 / 256 := by
    rcases rlt_or_le (1 / 256) v with g | g
    · have := Rat.mul_lt_mul_of_pos_right g hPm
      grind
    · exact g
  have hv1 : -(1 / 256) ≤ v := by
    rcases rlt_or_le v (-(1 / 256)) with g | g
    · have := Rat.mul_lt_mul_of_pos_right g hPm
      grind
    · exact g
  have hys : -κ ≤ (divN y (2 ^ R) : Rat) - v * M ∧ (divN y (2 ^ R) : Rat) - v * M ≤ κ := by
    have e : v * M = (y : Rat) / 2 ^ R := by rw [← hvy]; have : (2 : Rat) ^ R ≠ 0 := by grind
                                             grind
    rw [e]
    rcases hκ with hk | ⟨h0, hk⟩
    · have := divN_rat y (b := 2 ^ R) (Int.pow_pos (by decide))
      rw [cast_two_pow] at this
      rw [hk]
      constructor <;> grind
    · subst h0 hk
      rw [show (2 : Int) ^ 0 = 1 from rfl, divN_one, Rat.pow_zero]
      constructor <;> grind
  have hκ0 : 0 ≤ κ ∧ κ ≤ 1 / 2 := by rcases hκ with h | ⟨_, h⟩ <;> rw [h] <;> constructor <;> grind
  have te := tail_err (ys := divN y (2 ^ R)) (R := R) hMk (tays_two hp) hv1 hv2 hvy hκ0.1 hκ0.2 hys.1 hys.2 hY1 hY2
  have eT : ilTail p M R y = divN (horn M (divN y (2 ^ R)) (divN M (tays p)) (downKs ((tays p : Int) - 1) (tays p - 1)) * y) M := rfl
  rw [← eT] at te
  -- the series
  have ser : ∃ u : Rat, 0 ≤ u ∧ u ≤ 1 / 256 ∧ u * (2 ^ R * M) ≤ Y ∧ Lg (lgS v (tays p) - 2 * u ^ (tays p + 1) / (tays p + 1)) (1 + v) ∧ Ug (lgS v (tays p) + 2 * u ^ (tays p + 1) / (tays p + 1)) (1 + v) := by
    rcases rlt_or_le v 0 with g | g
    · have a := tay_lo (s := -1) (u := -v) (Or.inr rfl) (by grind) (by grind) (tays p)
      have b := tay_hi (s := -1) (u := -v) (Or.inr rfl) (by grind) (by grind) (tays p)
      rw [show (-1 : Rat) * -v = v by grind] at a b
      exact ⟨-v, by grind, by grind, by grind, a, b⟩
    · have a := tay_lo (s := 1) (u := v) (Or.inl rfl) g (by grind) (tays p)
      have b := tay_hi (s := 1) (u := v) (Or.inl rfl) g (by grind) (tays p)
      rw [show (1 : Rat) * v = v by grind] at a b
      exact ⟨v, by grind, by grind, by grind, a, b⟩
  obtain ⟨u, u0, u1, u2, uL, uU⟩ := ser
  have tr := trunc_err (R := R) hp hM hY1 hY2 u0 u2 u1
  have kL := h.lo (r := lgS v (tays p) - 2 * u ^ (tays p + 1) / (tays p + 1)) (by rw [hv]; exact uL)
  have kU := h.hi (r := lgS v (tays p) + 2 * u ^ (tays p + 1) / (tays p + 1)) (by rw [hv]; exact uU)
  generalize (ilTail p M R y : Rat) = D at *
  generalize 2 * u ^ (tays p + 1) / ((tays p : Rat) + 1) = t at *
  generalize lgS v (tays p) = S at *
  generalize hZ : Y / (M : Rat) = Z at *
  constructor
  · exact kL.mono (rdiv_le hm (fin_lo te.2 tr)) Rat.le_refl
  · exact kU.mono (le_rdiv hm (fin_hi te.1 tr)) Rat.le_refl
end Mine

end
section
namespace Mine
theorem sq_ge_M {M r s : Int} (hM : 0 < M) (hr : 0 ≤ r) (hs : IsSq (M * (M + r)) s) : M ≤ s := by
  rcases Int.lt_or_le s M with h | h
  · exfalso
    have h0 := hs.1
    have h1 : s * (s + 1) ≤ (M - 1) * M := Int.mul_le_mul (by omega) (by omega) (by omega) (by omega)
    have h2 : 0 ≤ M * r := Int.mul_nonneg (by omega) hr
    have h3 := hs.2.2
    have e1 : M * (M + r) = M * M + M * r := by grind
    have e2 : s * (s + 1) = s * s + s := by grind
    have e3 : (M - 1) * M = M * M - M := by grind
    omega
  · exact h
theorem two_pow_ge (R : Nat) : (1 : Rat) ≤ 2 ^ R := by
  induction R with
  | zero => rw [Rat.pow_zero]; grind
  | succ R ih => rw [Rat.pow_succ]; grind
end Mine

end
section
namespace Mine
/-- the series of _law_log -/
def llF (z : Rat) : Nat → Rat
  | 0 => 0
  | n + 1 => llF z n + 2 * z ^ (2 * n + 1) / (2 * n + 1)
theorem llF_eq (z : Rat) : ∀ n : Nat, lgS z (2 * n) - lgS (-z) (2 * n) = llF z n
  | 0 => by simp only [Nat.mul_zero, lgS, llF]; grind
  | n + 1 => by
    have ih := llF_eq z n
    rw [show 2 * (n + 1) = 2 * n + 1 + 1 by omega]
    simp only [lgS, llF]
    have ev : ∀ m : Nat, (-z) ^ (2 * m) = z ^ (2 * m) := by
      intro m
      induction m with
      | zero => rw [Nat.mul_zero, Rat.pow_zero, Rat.pow_zero]
      | succ m ih => rw [show 2 * (m + 1) = 2 * m + 1 + 1 by omega, Rat.pow_succ, Rat.pow_succ, ih, Rat.pow_succ, Rat.pow_succ]; grind
    have e1 : (-z) ^ (2 * n + 1) = -(z ^ (2 * n + 1)) := by rw [Rat.pow_succ, ev, Rat.pow_succ]; grind
    have e2 : (-z) ^ (2 * n + 1 + 1) = z ^ (2 * n + 1 + 1) := by rw [Rat.pow_succ, e1, Rat.pow_succ]; grind
    have e3 : (- -z) = z := by grind
    rw [e3, e1, e2]
    push_cast
    generalize z ^ (2 * n + 1) = A at *
    generalize z ^ (2 * n + 1 + 1) = B at *
    grind
/-- log ((1 + z) / (1 - z)) -/
theorem at_lo {z : Rat} (h0 : 0 ≤ z) (h1 : 2 * z ≤ 1) (n : Nat) : Lg (llF z n - 4 * z ^ (2 * n + 1) / (2 * n + 1)) ((1 + z) / (1 - z)) := by
  have a := tay_lo (s := 1) (u := z) (Or.inl rfl) h0 h1 (2 * n)
  have b := tay_hi (s := -1) (u := z) (Or.inr rfl) h0 h1 (2 * n)
  rw [show (1 : Rat) * z = z by grind] at a
  rw [show (-1 : Rat) * z = -z by grind, show 1 + -z = 1 - z by grind] at b
  have b' := b.inv (by grind)
  have k := Lg.add a b'
  have e := llF_eq z n
  refine k.mono ?_ ?_
  · rw [← e]; push_cast; grind
  · rw [Rat.div_def]; exact Rat.le_refl
theorem at_hi {z : Rat} (h0 : 0 ≤ z) (h1 : 2 * z ≤ 1) (n : Nat) : Ug (llF z n + 4 * z ^ (2 * n + 1) / (2 * n + 1)) ((1 + z) / (1 - z)) := by
  have a := tay_hi (s := 1) (u := z) (Or.inl rfl) h0 h1 (2 * n)
  have b := tay_lo (s := -1) (u := z) (Or.inr rfl) h0 h1 (2 * n)
  rw [show (1 : Rat) * z = z by grind] at a
  rw [show (-1 : Rat) * z = -z by grind, show 1 + -z = 1 - z by grind] at b
  have b' := b.inv (by grind)
  have hi : 0 < (1 - z)⁻¹ := Rat.inv_pos.mpr (by grind)
  have k := Ug.add hi a b'
  have e := llF_eq z n
  refine k.mono ?_ ?_
  · rw [← e]; push_cast; grind
  · rw [Rat.div_def]; exact Rat.le_refl
section
variable {a b u : Int}
end
end Mine

end
section
namespace Mine
/-! bounds of the exponential: Ug r q says q ≤ exp r, Lg r q says exp r ≤ q -/
/-- r^k / k! -/
def et (r : Rat) : Nat → Rat
  | 0 => 1
  | k + 1 => et r k * r / (k + 1)
/-- the sum of the first -/
def eP (r : Rat) : Nat → Rat
  | 0 => 1
  | k + 1 => eP r k + et r (k + 1)
theorem nat1_pos (k : Nat) : (0 : Rat) < (k : Rat) + 1 := by
  have : (0 : Rat) ≤ k := Rat.natCast_nonneg
  grind
theorem et_succ (r : Rat) (k : Nat) : et r (k + 1) * ((k : Rat) + 1) = et r k * r := by
  rw [et]; exact fld3 (nat1_pos k)
theorem et_nonneg {r : Rat} (h : 0 ≤ r) : ∀ k, 0 ≤ et r k
  | 0 => by rw [et]; grind
  | k + 1 => by
    rw [et]
    exact le_rdiv (nat1_pos k) (by have := Rat.mul_nonneg (et_nonneg h k) h; grind)
theorem eP_one {r : Rat} (h : 0 ≤ r) : ∀ k, 1 ≤ eP r k
  | 0 => by rw [eP]; grind
  | k + 1 => by
    rw [eP]
    have := eP_one h k
    have := et_nonneg h (k + 1)
    grind
theorem rle_of_mul {a b c : Rat} (hc : 0 < c) (h : a * c ≤ b * c) : a ≤ b := by
  rcases rlt_or_le b a with g | g
  · have := Rat.mul_lt_mul_of_pos_right g hc
    grind
  · exact g
theorem et_diff {x y : Rat} (h0 : 0 ≤ x) (h : x ≤ y) : ∀ k, et x k * (y - x) ≤ et y (k + 1) - et x (k + 1) ∧ et y (k + 1) - et x (k + 1) ≤ et y k * (y - x)
  | 0 => by
    simp only [et]
    push_cast
    constructor <;> grind
  | k + 1 => by
    obtain ⟨a, b⟩ := et_diff h0 h k
    have hx := et_nonneg h0 k
    have hy := et_nonneg (show 0 ≤ y by grind) k
    have ex := et_succ x k
    have ey := et_succ y k
    have ex2 := et_succ x (k + 1)
    have ey2 := et_succ y (k + 1)
    have c2 : (((k + 1 : Nat) : Rat) + 1) = (k : Rat) + 2 := by push_cast; grind
    rw [c2] at ex2 ey2
    have hk2 : (0 : Rat) < (k : Rat) + 2 := by have := nat1_pos k; grind
    generalize et x (k + 1) = A at *
    generalize et y (k + 1) = B at *
    generalize et x k = A0 at *
    generalize et y k = B0 at *
    generalize et x (k + 1 + 1) = A2 at *
    generalize et y (k + 1 + 1) = B2 at *
    have d0 : 0 ≤ y - x := by grind
    have k1 := Rat.mul_nonneg h0 (show 0 ≤ B0 * (y - x) - (B - A) by grind)
    have k2 := Rat.mul_nonneg (Rat.mul_nonneg d0 d0) hy
    have k3 := Rat.mul_nonneg (show 0 ≤ y by grind) (show 0 ≤ (B - A) - A0 * (y - x) by grind)
    have k4 := Rat.mul_nonneg (Rat.mul_nonneg d0 d0) hx
    constructor
    · refine rle_of_mul hk2 ?_
      have e1 : (B2 - A2) * ((k : Rat) + 2) = B * y - A * x := by grind
      rw [e1]
      have e2 : A * (y - x) * ((k : Rat) + 2) = A * (y - x) + (y - x) * (A * ((k : Rat) + 1)) := by grind
      rw [e2, ex]
      grind
    · refine rle_of_mul hk2 ?_
      have e1 : (B2 - A2) * ((k : Rat) + 2) = B * y - A * x := by grind
      rw [e1]
      have e2 : B * (y - x) * ((k : Rat) + 2) = B * (y - x) + (y - x) * (B * ((k : Rat) + 1)) := by grind
      rw [e2, ey]
      grind
theorem eP_diff {x y : Rat} (h0 : 0 ≤ x) (h : x ≤ y) : ∀ k, eP x k * (y - x) ≤ eP y (k + 1) - eP x (k + 1) ∧ eP y (k + 1) - eP x (k + 1) ≤ eP y k * (y - x)
  | 0 => by
    simp only [et, eP]
    push_cast
    constructor <;> grind
  | k + 1 => by
    obtain ⟨a, b⟩ := eP_diff h0 h k
    obtain ⟨c, d⟩ := et_diff h0 h (k + 1)
    have e1 : eP y (k + 1 + 1) = eP y (k + 1) + et y (k + 1 + 1) := rfl
    have e2 : eP x (k + 1 + 1) = eP x (k + 1) + et x (k + 1 + 1) := rfl
    have e3 : eP y (k + 1) = eP y k + et y (k + 1) := rfl
    have e4 : eP x (k + 1) = eP x k + et x (k + 1) := rfl
    rw [e1, e2]
    constructor
    · rw [e4] at a ⊢; grind
    · rw [e3] at b ⊢; grind
theorem et_half {y : Rat} (h0 : 0 ≤ y) (h1 : 2 * y ≤ 1) (k : Nat) : 2 * et y (k + 1) ≤ et y k := by
  have e := et_succ y k
  have a := et_nonneg h0 k
  have b := et_nonneg h0 (k + 1)
  have hk : (0 : Rat) ≤ k := Rat.natCast_nonneg
  have k1 := Rat.mul_nonneg a (show 0 ≤ 1 - 2 * y by grind)
  have k2 := Rat.mul_nonneg b hk
  grind
theorem eP_two {y : Rat} (h0 : 0 ≤ y) (h1 : 2 * y ≤ 1) : ∀ k, eP y k + et y k ≤ 2
  | 0 => by simp only [eP, et]; grind
  | k + 1 => by
    have := eP_two h0 h1 k
    have := et_half h0 h1 k
    rw [eP]; grind
theorem eP_zero : ∀ k, eP 0 k = 1
  | 0 => rfl
  | k + 1 => by rw [eP, eP_zero k, et]; grind
/-- the sum is no more than exp -/
theorem exp_lo {r : Rat} (h0 : 0 ≤ r) (h1 : 2 * r ≤ 1) (T : Nat) : Ug r (eP r (T + 1)) := by
  have key := Ug.along (F := fun x => x) (G := fun x => eP x (T + 1)) (a := 0) (b := r) (C := 2) h0 (by grind)
    (by intro x hx hx2; have := eP_one hx (T + 1); grind) (by
      intro x y hx hxy hy
      have d := (eP_diff hx hxy T).2
      have o := eP_one hx (T + 1)
      have hy0 : 0 ≤ y := by grind
      have t := eP_two hy0 (by grind) (T + 1)
      have e3 : eP y (T + 1) = eP y T + et y (T + 1) := rfl
      have n1 := et_nonneg hy0 (T + 1)
      have hd : 0 ≤ y - x := by grind
      show eP y (T + 1) / eP x (T + 1) - 1 ≤ y - x + 2 * ((y - x) * (y - x))
      have : eP y (T + 1) / eP x (T + 1) ≤ 1 + (y - x) + 2 * ((y - x) * (y - x)) := by
        refine rdiv_le (by grind) ?_
        generalize eP y (T + 1) = B at *
        generalize eP x (T + 1) = A at *
        generalize eP y T = B0 at *
        have k1 := Rat.mul_nonneg (show 0 ≤ B - B0 by grind) hd
        have k2 := Rat.mul_nonneg (show 0 ≤ 2 - B by grind) hd
        -- B - A ≤ B d, B - A ≤ 2 d
        have k3 := Rat.mul_nonneg (show 0 ≤ 2 * (y - x) - (B - A) by grind) hd
        have k4 := Rat.mul_nonneg (Rat.mul_nonneg hd hd) (show 0 ≤ A - 1 by grind)
        grind
      grind)
  refine key.mono (by grind) ?_
  show eP r (T + 1) ≤ eP r (T + 1) / eP 0 (T + 1)
  rw [eP_zero]; grind
/-- and exp is no more than the sum and twice the next -/
theorem exp_hi {r : Rat} (h0 : 0 ≤ r) (h1 : 2 * r ≤ 1) (T : Nat) : Lg r (eP r (T + 1) + 2 * et r (T + 2)) := by
  have key := Lg.along (F := fun x => x) (G := fun x => eP x (T + 1) + 2 * et x (T + 2)) (a := 0) (b := r) (C := 4) h0 (by grind)
    (by intro x hx hx2; have := eP_one hx (T + 1); have := et_nonneg hx (T + 2); grind) (by
      intro x y hx hxy hy
      have d := eP_diff hx hxy T
      have d2 := et_diff hx hxy (T + 1)
      have hy0 : 0 ≤ y := by grind
      have o := eP_one hy0 (T + 1)
      have t := eP_two hy0 (by grind) (T + 1)
      have t0 := eP_two hy0 (by grind) T
      have hh := et_half hx (by grind) (T + 1)
      have e3 : eP x (T + 1) = eP x T + et x (T + 1) := rfl
      have n1 := et_nonneg hy0 (T + 2)
      have n0 := et_nonneg hx (T + 2)
      have n2 := et_nonneg hy0 (T + 1)
      have n3 := et_nonneg hy0 T
      have n4 := eP_one hy0 T
      have hd : 0 ≤ y - x := by grind
      show y - x ≤ 1 - (eP x (T + 1) + 2 * et x (T + 2)) / (eP y (T + 1) + 2 * et y (T + 2)) + 4 * ((y - x) * (y - x))
      have : (eP x (T + 1) + 2 * et x (T + 2)) / (eP y (T + 1) + 2 * et y (T + 2)) ≤ 1 - (y - x) + 4 * ((y - x) * (y - x)) := by
        refine rdiv_le (by grind) ?_
        have g1 : (eP x (T + 1) + 2 * et x (T + 2)) * (y - x) ≤ (eP y (T + 1) + 2 * et y (T + 2)) - (eP x (T + 1) + 2 * et x (T + 2)) := by
          have k1 := Rat.mul_nonneg (show 0 ≤ et x (T + 1) - 2 * et x (T + 2) by grind) hd
          have d1 := d.1
          have d3 := d2.1
          rw [show eP x T = eP x (T + 1) - et x (T + 1) by grind] at d1
          clear e3 d d2
          generalize eP x (T + 1) = a1 at *
          generalize eP y (T + 1) = a2 at *
          generalize et x (T + 1) = a3 at *
          generalize et x (T + 2) = a4 at *
          generalize et y (T + 2) = a5 at *
          grind
        have g2 : (eP y (T + 1) + 2 * et y (T + 2)) - (eP x (T + 1) + 2 * et x (T + 2)) ≤ 4 * (y - x) := by
          have k1 := Rat.mul_nonneg (show 0 ≤ 2 - eP y T by grind) hd
          have k2 := Rat.mul_nonneg (show 0 ≤ 1 - et y (T + 1) by grind) hd
          grind
        have g3 : 1 ≤ eP y (T + 1) + 2 * et y (T + 2) := by grind
        generalize eP y (T + 1) + 2 * et y (T + 2) = B at *
        generalize eP x (T + 1) + 2 * et x (T + 2) = A at *
        have k3 := Rat.mul_nonneg (show 0 ≤ 4 * (y - x) - (B - A) by grind) hd
        have k4 := Rat.mul_nonneg (Rat.mul_nonneg hd hd) (show 0 ≤ B - 1 by grind)
        grind
      grind)
  refine key.mono (by grind) ?_
  show (eP r (T + 1) + 2 * et r (T + 2)) / (eP 0 (T + 1) + 2 * et 0 (T + 2)) ≤ _
  rw [eP_zero, show et 0 (T + 2) = 0 by rw [et]; grind]
  grind
/-- the ideal Taylor loop -/
def uE (r : Rat) (T : Nat) : Nat → Rat
  | 0 => r / T
  | i + 1 => r / ((T - 1 - i : Nat) : Rat) * (1 + uE r T i)
theorem uE_eP (r : Rat) (T : Nat) : ∀ i : Nat, i + 1 ≤ T → eP r T - eP r (T - 1 - i) = et r (T - 1 - i) * uE r T i
  | 0, h => by
    obtain ⟨S, rfl⟩ : ∃ S, T = S + 1 := ⟨T - 1, by omega⟩
    simp only [uE, Nat.sub_zero, Nat.add_sub_cancel, eP, et]
    push_cast
    grind
  | i + 1, h => by
    have ih := uE_eP r T i (by omega)
    obtain ⟨S, hS⟩ : ∃ S, T - 1 - i = S + 1 := ⟨T - 1 - i - 1, by omega⟩
    have e1 : T - 1 - (i + 1) = S := by omega
    rw [hS] at ih
    rw [e1]
    simp only [uE, hS]
    have e2 : eP r (S + 1) = eP r S + et r (S + 1) := rfl
    have e3 : et r (S + 1) = et r S * r / (S + 1) := rfl
    rw [e2, e3] at ih
    push_cast
    have hS0 := nat1_pos S
    have : (S : Rat) + 1 ≠ 0 := by grind
    grind
theorem uE_one (r : Rat) {T : Nat} (hT : 1 ≤ T) : 1 + uE r T (T - 1) = eP r T := by
  have := uE_eP r T (T - 1) (by omega)
  rw [show T - 1 - (T - 1) = 0 by omega] at this
  simp only [eP, et] at this
  grind
/-- the terms are small -/
theorem et_small {r : Rat} (h0 : 0 ≤ r) (h1 : r ≤ 1 / 256) : ∀ k : Nat, 6 * et r (k + 3) ≤ r * (1 / 256) ^ (k + 2)
  | 0 => by
    simp only [et, Rat.pow_succ, Rat.pow_zero]
    push_cast
    have k1 := Rat.mul_nonneg h0 (show 0 ≤ 1 / 256 - r by grind)
    have k2 := Rat.mul_nonneg k1 (show 0 ≤ 1 / 256 + r by grind)
    grind
  | k + 1 => by
    have ih := et_small h0 h1 k
    have e := et_succ r (k + 3)
    have a := et_nonneg h0 (k + 3)
    have b := et_nonneg h0 (k + 3 + 1)
    have hk : (0 : Rat) ≤ ((k + 3 : Nat) : Rat) := Rat.natCast_nonneg
    have k1 := Rat.mul_nonneg a (show 0 ≤ 1 / 256 - r by grind)
    have k2 := Rat.mul_nonneg b hk
    rw [show k + 1 + 3 = k + 3 + 1 by omega, show k + 1 + 2 = k + 2 + 1 by omega, Rat.pow_succ]
    generalize (1 / 256 : Rat) ^ (k + 2) = P at *
    grind
end Mine

end
section
namespace Mine
open PySem.W
/-! reductions from one up to ten -/
theorem sqB0 {M y s : Rat} (hM : 1000 ≤ M) (hs0 : 0 < s) (hy : y ≤ 9 * M) (h1 : s * s - s ≤ M * (M + y)) : s ≤ 317 / 100 * M := by
  rcases rlt_or_le (317 / 100 * M) s with g | g
  · exfalso
    have a := Rat.mul_nonneg (show 0 ≤ s - 317 / 100 * M by grind) (show 0 ≤ s + 317 / 100 * M - 1 by grind)
    have b := Rat.mul_nonneg (show 0 ≤ M by grind) (show 0 ≤ 9 * M - y by grind)
    have c := Rat.mul_nonneg (show 0 ≤ M by grind) (show 0 ≤ M - 1000 by grind)
    grind
  · exact g
theorem sqB1 {M y s r : Rat} (hM : 1000 ≤ M) (hs0 : 0 < s) (hy : y ≤ 87 / 20 * M) (hr : r ≤ y / 2 + 1 / 2) (h1 : s * s - s ≤ M * (M + r)) : s ≤ 179 / 100 * M := by
  rcases rlt_or_le (179 / 100 * M) s with g | g
  · exfalso
    have a := Rat.mul_nonneg (show 0 ≤ s - 179 / 100 * M by grind) (show 0 ≤ s + 179 / 100 * M - 1 by grind)
    have b := Rat.mul_nonneg (show 0 ≤ M by grind) (show 0 ≤ 87 / 40 * M + 1 / 2 - r by grind)
    have c := Rat.mul_nonneg (show 0 ≤ M by grind) (show 0 ≤ M - 1000 by grind)
    grind
  · exact g
theorem yB0 {M y s d : Rat} (hM : 1000 ≤ M) (hs0 : M ≤ s) (hs : s ≤ 317 / 100 * M) (h2 : M * (M + y) ≤ s * s + s) (hd : d ≤ M * y * 2 / (M + s) + 1 / 2) : d ≤ 87 / 20 * M := by
  have : M * y * 2 / (M + s) ≤ 2 * (s - M) + 2 := rdiv_le (by grind) (by grind)
  grind
theorem yB1 {M y s d r : Rat} (hM : 1000 ≤ M) (hs0 : M ≤ s) (hs : s ≤ 179 / 100 * M) (hr : y / 2 - 1 / 2 ≤ r) (h2 : M * (M + r) ≤ s * s + s) (hd : d ≤ M * y * 2 / (M + s) + 1 / 2) : d ≤ 16 / 5 * M := by
  have b := Rat.mul_nonneg (show 0 ≤ M by grind) (show 0 ≤ r - (y / 2 - 1 / 2) by grind)
  have : M * y * 2 / (M + s) ≤ 4 * (s - M) + 4 := rdiv_le (by grind) (by grind)
  grind
theorem half_facts {a b : Rat} (h : -(1 / 2) ≤ a - b ∧ a - b ≤ 1 / 2) : b - 1 / 2 ≤ a ∧ a ≤ b + 1 / 2 := by
  constructor <;> grind
/-- one reduction, from a bound c of y' / M -/
theorem stepB {x M y s : Int} {R : Nat} {A c : Rat} (hM : 1000 ≤ M) (h : IlInv x M R y A) (hy : 0 ≤ y) (hs : IsSq (M * (M + divN y (2 ^ R))) s)
    (hc : ((divN (M * y * 2) (M + s) : Int) : Rat) ≤ c * M) (hy' : 0 ≤ divN (M * y * 2) (M + s)) :
    ∃ A', IlInv x M (R + 1) (divN (M * y * 2) (M + s)) A' ∧ A' * M ≤ A * M + (c / 2 + 1 / 2 + c / 2 * (1 / 2 ^ (R + 1)) + 1 / 1000) := by
  have hM0 : 0 < M := by omega
  have hm := cast_k hM
  have hm0 : (0 : Rat) < M := by grind
  have hs0 : (0 : Rat) < s := by exact_mod_cast hs.1
  have hw : 0 < (s : Rat) / M := rdiv_pos hs0 hm0
  have vpos : ∀ (R : Nat) (z : Int), 0 ≤ z → 0 ≤ vr M R z := by
    intro R z hz
    have hzq : (0 : Rat) ≤ z := by exact_mod_cast hz
    unfold vr
    exact le_rdiv (Rat.mul_pos (c2pos R) hm0) (by grind)
  have v0 := vpos R y hy
  have v0' := vpos (R + 1) _ hy'
  have yq0 : (0 : Rat) ≤ ((divN (M * y * 2) (M + s) : Int) : Rat) := by exact_mod_cast hy'
  have g := step_gen (θ := 1) (κ := 1 / 2) (Y := c * M) (l := 1) hM0 h hs (Or.inl rfl) (by grind) (by grind) hc (by grind) (by grind) (by grind) (by
    have := rsq_nonneg (vr M (R + 1) (divN (M * y * 2) (M + s)))
    grind)
  refine ⟨_, g, ?_⟩
  have ev := vr_eq (R := R + 1) (y := divN (M * y * 2) (M + s)) hM0
  have hP := c2pos (R + 1)
  have vle : vr M (R + 1) (divN (M * y * 2) (M + s)) ≤ c * (1 / 2 ^ (R + 1)) := by
    refine rle_of_mul (Rat.mul_pos hP hm0) ?_
    rw [ev]
    have : c * (1 / 2 ^ (R + 1)) * (2 ^ (R + 1) * (M : Rat)) = c * M := by
      have : (2 : Rat) ^ (R + 1) ≠ 0 := by grind
      grind
    rw [this]; exact hc
  have mi : 1 / (M : Rat) ≤ 1 / 1000 := rdiv_le hm0 (by grind)
  have mi0 : 0 < (1 : Rat) / M := rdiv_pos (by grind) hm0
  have e1 : (A + (1 * (c * M / (2 * M) + 1 / (4 * M)) + (1 + vr M (R + 1) (divN (M * y * 2) (M + s))) / 2 + 1 / (16 * (M : Rat))) / (1 * M)) * M = A * M + (c / 2 + 1 / 4 * (1 / M) + (1 + vr M (R + 1) (divN (M * y * 2) (M + s))) / 2 + 1 / 16 * (1 / M)) := by
    generalize vr M (R + 1) (divN (M * y * 2) (M + s)) = V
    have : (M : Rat) ≠ 0 := by grind
    grind
  rw [e1]
  generalize vr M (R + 1) (divN (M * y * 2) (M + s)) = V at *
  generalize 1 / (2 : Rat) ^ (R + 1) = t at *
  generalize (1 : Rat) / M = i at *
  grind
theorem pow10_le {M y2 : Int} {R : Nat} (hM : 0 < M) (h : M * 2 ^ R ≤ y2) (hy : y2 < 1024 * M) : R ≤ 9 := by
  rcases Nat.lt_or_ge 9 R with g | g
  · exfalso
    obtain ⟨k, rfl⟩ : ∃ k, R = 10 + k := ⟨R - 10, by omega⟩
    rw [Int.pow_add] at h
    have : (0 : Int) < 2 ^ k := Int.pow_pos (by decide)
    have h1 : M * 1024 ≤ M * (2 ^ 10 * 2 ^ k) := Int.mul_le_mul_of_nonneg_left (by
      have : (2 : Int) ^ 10 = 1024 := by decide
      omega) (by omega)
    omega
  · exact g
theorem half_pow {R : Nat} (h : 2 ≤ R) : 1 / (2 : Rat) ^ (R + 1) ≤ 1 / 8 := by
  obtain ⟨k, rfl⟩ : ∃ k, R = 2 + k := ⟨R - 2, by omega⟩
  have hk := two_pow_ge k
  have e : (2 : Rat) ^ (2 + k + 1) = 8 * 2 ^ k := by rw [Rat.pow_succ, rpow_add, show (2 : Rat) ^ 2 = 4 by decide +kernel]; grind
  rw [e]
  exact rdiv_le (by grind) (by grind)
def aB : Nat → Rat
  | 0 => 0
  | 1 => 19 / 5
  | R => 5 / 2 * R + 3 / 2
/-- the chain from one up to ten -/
theorem chainB {x M : Int} (hM : 1000 ≤ M) (hx : M ≤ x) (hx2 : x ≤ 10 * M) {R : Nat} {y : Int} (h : RedTo x M R y) :
    0 ≤ y ∧ y ≤ 9 * M ∧ (1 ≤ R → (y : Rat) ≤ 87 / 20 * M) ∧ (2 ≤ R → (y : Rat) ≤ 16 / 5 * M) ∧ R ≤ 10 ∧ ∃ A, IlInv x M R y A ∧ A * M ≤ aB R := by
  have hm := cast_k hM
  have hm0 : (0 : Rat) < M := by grind
  induction h with
  | zero =>
    refine ⟨by omega, by omega, by omega, by omega, by omega, 0, IlInv.zero (by omega) (by omega), ?_⟩
    unfold aB
    grind
  | @succ R y s hr hc hs ih =>
    obtain ⟨y0, y9, yb1, yb2, hR10, A, iA, bA⟩ := ih
    have hPi : (0 : Int) < 2 ^ R := Int.pow_pos (by decide)
    have hr0 : 0 ≤ divN y (2 ^ R) := le_divN hPi (by omega)
    have hsM := sq_ge_M (by omega) hr0 hs
    have y'0 : 0 ≤ divN (M * y * 2) (M + s) := le_divN (by omega) (by
      have := Int.mul_nonneg (show 0 ≤ M by omega) y0
      omega)
    have y'1 : divN (M * y * 2) (M + s) ≤ y := divN_le (by omega) (by
      have h1 := Int.mul_le_mul_of_nonneg_left hsM y0
      have e1 : y * (M + s) = y * M + y * s := by grind
      have e2 : M * y * 2 = y * M + y * M := by grind
      omega)
    have y'1q : ((divN (M * y * 2) (M + s) : Int) : Rat) ≤ y := by exact_mod_cast y'1
    have hs0 : (0 : Rat) < s := by exact_mod_cast hs.1
    have hsMq : (M : Rat) ≤ s := by exact_mod_cast hsM
    have d1 := divN_rat (M * y * 2) (b := M + s) (by omega)
    have eM : (((M * y * 2 : Int) : Rat)) = M * y * 2 := by push_cast; rfl
    have eS : (((M + s : Int) : Rat)) = M + s := by push_cast; rfl
    rw [eM, eS] at d1
    have q1 : (s : Rat) * s - s ≤ M * (M + divN y (2 ^ R)) := by
      have := hs.2.1
      have h : s * s - s ≤ M * (M + divN y (2 ^ R)) := by omega
      exact_mod_cast h
    have q2 : (M : Rat) * (M + divN y (2 ^ R)) ≤ (s : Rat) * s + s := by exact_mod_cast hs.2.2
    have y9q : (y : Rat) ≤ 9 * M := by
      have := Rat.intCast_le_intCast.mpr y9
      rw [Rat.intCast_mul] at this
      exact this
    have dr := divN_rat y (b := 2 ^ R) hPi
    rw [cast_two_pow] at dr
    -- the first, the second, the others
    have hcase : R = 0 ∨ R = 1 ∨ 2 ≤ R := by omega
    rcases hcase with e | e | e
    · subst e
      rw [show (2 : Int) ^ 0 = 1 from rfl, divN_one] at q1 q2
      have sb := sqB0 hm hs0 y9q q1
      have yb := yB0 (d := ((divN (M * y * 2) (M + s) : Int) : Rat)) hm hsMq sb q2 (half_facts d1).2
      obtain ⟨A', i', b'⟩ := stepB hM iA y0 hs yb y'0
      refine ⟨y'0, by omega, fun _ => yb, by omega, by omega, A', i', ?_⟩
      unfold aB at bA ⊢
      simp only [Rat.pow_succ, Rat.pow_zero] at b'
      grind
    · subst e
      rw [show (2 : Rat) ^ 1 = 2 by decide +kernel] at dr
      have sb := sqB1 (r := (divN y (2 ^ 1) : Rat)) hm hs0 (yb1 (by omega)) (half_facts dr).2 q1
      have yb := yB1 (r := (divN y (2 ^ 1) : Rat)) (d := ((divN (M * y * 2) (M + s) : Int) : Rat)) hm hsMq sb (half_facts dr).1 q2 (half_facts d1).2
      obtain ⟨A', i', b'⟩ := stepB hM iA y0 hs yb y'0
      refine ⟨y'0, by omega, fun _ => by grind, fun _ => yb, by omega, A', i', ?_⟩
      unfold aB at bA ⊢
      simp only [Rat.pow_succ, Rat.pow_zero] at b'
      push_cast
      grind
    · have yb : ((divN (M * y * 2) (M + s) : Int) : Rat) ≤ 16 / 5 * M := by have := yb2 e; grind
      obtain ⟨A', i', b'⟩ := stepB hM iA y0 hs yb y'0
      have y3 : 256 * (y.natAbs : Int) < 1024 * M := by
        have h1 := yb2 e
        have h2 : ((5 * y : Int) : Rat) ≤ ((16 * M : Int) : Rat) := by
          rw [Rat.intCast_mul, Rat.intCast_mul, show (((5 : Int)) : Rat) = 5 from rfl, show (((16 : Int)) : Rat) = 16 from rfl]
          grind
        have h3 := Rat.intCast_le_intCast.mp h2
        omega
      have hR9 := pow10_le (by omega) hc y3
      refine ⟨y'0, by omega, fun _ => by grind, fun _ => yb, by omega, A', i', ?_⟩
      have hp := half_pow e
      obtain ⟨k, rfl⟩ : ∃ k, R = k + 2 := ⟨R - 2, by omega⟩
      unfold aB at bA ⊢
      push_cast at bA ⊢
      generalize 1 / (2 : Rat) ^ (k + 2 + 1) = t at *
      grind
theorem redOk_B {x M : Int} (hM : 1000 ≤ M) (hx : M ≤ x) (hx2 : x ≤ 10 * M) : RedOk x M := by
  intro R y h
  have c := chainB hM hx hx2 h
  have hPi : (0 : Int) < 2 ^ R := Int.pow_pos (by decide)
  have hr0 : 0 ≤ divN y (2 ^ R) := le_divN hPi (by omega)
  exact ⟨by omega, by omega, by omega, by omega⟩
/-- the answer of _ilog from one up to ten -/
theorem ilog_B {p : Nat} {x M D : Int} (hp : 3 ≤ p) (hM : M = 10 ^ p) (hMk : 1000 ≤ M) (hx : M ≤ x) (hx2 : x ≤ 10 * M) (hD : IsIlog p x M D) :
    Lg (((D : Rat) - 31) / M) ((x : Rat) / M) ∧ Ug (((D : Rat) + 31) / M) ((x : Rat) / M) := by
  obtain ⟨R, y, hr, hc, rfl⟩ := hD
  obtain ⟨y0, y9, yb1, yb2, hR10, A, iA, bA⟩ := chainB hMk hx hx2 hr
  have hm := cast_k hMk
  have hm0 : (0 : Rat) < M := by grind
  have y0q : (0 : Rat) ≤ y := by exact_mod_cast y0
  have y4 : (y : Rat) ≤ 4 * M := by
    have h1 : y ≤ 4 * M := by
      have h2 : (2 : Int) ^ R ≤ 1024 := by
        obtain ⟨k, hk⟩ := Nat.le.dest hR10
        have : (2 : Int) ^ 10 = 2 ^ R * 2 ^ k := by rw [← Int.pow_add, hk]
        have h3 : (0 : Int) < 2 ^ R := Int.pow_pos (by decide)
        have h4 : (0 : Int) < 2 ^ k := Int.pow_pos (by decide)
        have := Int.mul_le_mul_of_nonneg_left (show (1 : Int) ≤ 2 ^ k by omega) (Int.le_of_lt h3)
        have e : (2 : Int) ^ 10 = 1024 := by decide
        omega
      have := Int.mul_le_mul_of_nonneg_left h2 (show 0 ≤ M by omega)
      omega
    have := Rat.intCast_le_intCast.mpr h1
    rw [Rat.intCast_mul] at this
    exact this
  have f := il_final (κ := 1 / 2) (Y := 4 * (M : Rat)) hp hM iA hc (Or.inl rfl) (by grind) y4
  have aM : A * M ≤ 53 / 2 := by
    have : aB R ≤ 53 / 2 := by
      have hR : R = 0 ∨ R = 1 ∨ 2 ≤ R := by omega
      rcases hR with e | e | e
      · subst e; unfold aB; grind
      · subst e; unfold aB; grind
      · obtain ⟨k, rfl⟩ : ∃ k, R = k + 2 := ⟨R - 2, by omega⟩
        unfold aB
        have : ((k + 2 : Nat) : Rat) ≤ ((10 : Nat) : Rat) := by exact_mod_cast hR10
        push_cast at this ⊢
        grind
    grind
  have e4 : 4 * (M : Rat) / M = 4 := by have : (M : Rat) ≠ 0 := by grind
                                        grind
  rw [e4] at f
  generalize (ilTail p M R y : Rat) = D at *
  constructor
  · refine f.1.mono (rdiv_le hm0 ?_) Rat.le_refl
    rw [fld3 hm0]; grind
  · refine f.2.mono (rdiv_le hm0 ?_) Rat.le_refl
    rw [fld3 hm0]; grind
end Mine

end
section
namespace Mine
theorem ieT_nonneg {Ms x : Int} {T : Nat} (hx : 0 ≤ x) (hM : 256 * x < Ms) (hT : 0 < T) : ∀ i, i + 1 ≤ T → 0 ≤ ieT Ms x T i ∧ ieT Ms x T i ≤ 2 * x
  | 0, _ => (ieT_start (Ms := Ms) hx hT).2
  | i + 1, h => by
    have ih := ieT_nonneg hx hM hT i (by omega)
    exact ieT_bound hx hM (by omega) ih.1 ih.2
theorem uE_bound {r : Rat} (h0 : 0 ≤ r) (h1 : r ≤ 1 / 256) {T : Nat} (hT : 1 ≤ T) : ∀ i, i + 1 ≤ T → 0 ≤ uE r T i ∧ uE r T i ≤ 1 / 128
  | 0, _ => by
    rw [uE]
    have hq : (1 : Rat) ≤ T := by exact_mod_cast hT
    refine ⟨le_rdiv (by grind) (by grind), rdiv_le (by grind) (by grind)⟩
  | i + 1, h => by
    obtain ⟨a, b⟩ := uE_bound h0 h1 hT i (by omega)
    rw [uE]
    have hq : (1 : Rat) ≤ ((T - 1 - i : Nat) : Rat) := by exact_mod_cast (show 1 ≤ T - 1 - i by omega)
    generalize ((T - 1 - i : Nat) : Rat) = k at *
    have c1 : 0 ≤ r / k := le_rdiv (by grind) (by grind)
    have c2 : r / k ≤ 1 / 256 := rdiv_le (by grind) (by grind)
    have k1 := Rat.mul_nonneg c1 (show 0 ≤ 1 + uE r T i by grind)
    have k2 := Rat.mul_nonneg (show 0 ≤ 1 / 256 - r / k by grind) (show 0 ≤ 1 + uE r T i by grind)
    exact ⟨by grind, by grind⟩
theorem fldT {r Ms y k : Rat} (hM : 0 < Ms) (hk : 0 < k) : r * Ms * (Ms + y) / (Ms * k) = r / k * (Ms + y) := by
  have h1 : Ms ≠ 0 := by grind
  have h2 : k ≠ 0 := by grind
  grind
/-- the Taylor loop of ints against the ideal one -/
theorem ieT_err {Ms x : Int} {r : Rat} {T : Nat} (hT : 1 ≤ T) (hMs : 0 < Ms) (h0 : 0 ≤ r) (hr : r * Ms = x) (hr2 : r ≤ 1 / 256) : ∀ i, i + 1 ≤ T →
    -(503 / 1000 : Rat) ≤ (ieT Ms x T i : Rat) - Ms * uE r T i ∧ (ieT Ms x T i : Rat) - Ms * uE r T i ≤ 503 / 1000
  | 0, _ => by
    have d := divN_rat x (b := (T : Int)) (by omega)
    rw [ieT, uE]
    have e : (Ms : Rat) * (r / (T : Rat)) = (x : Rat) / ((T : Int) : Rat) := by
      rw [Rat.intCast_natCast, ← hr]
      grind
    rw [e]
    constructor <;> grind
  | i + 1, h => by
    obtain ⟨a, b⟩ := ieT_err hT hMs h0 hr hr2 i (by omega)
    have k1 : (T : Int) - 1 - i = ((T - 1 - i : Nat) : Int) := by omega
    rw [ieT, uE, k1]
    have hk : (0 : Int) < ((T - 1 - i : Nat) : Int) := by omega
    have d := divN_rat (x * (Ms + ieT Ms x T i)) (b := Ms * ((T - 1 - i : Nat) : Int)) (Int.mul_pos hMs hk)
    have hm : (0 : Rat) < Ms := by exact_mod_cast hMs
    have hkq : (1 : Rat) ≤ ((T - 1 - i : Nat) : Rat) := by exact_mod_cast (show 1 ≤ T - 1 - i by omega)
    have e1 : ((x * (Ms + ieT Ms x T i) : Int) : Rat) = r * Ms * (Ms + ieT Ms x T i) := by rw [hr]; push_cast; rfl
    have e2 : ((Ms * ((T - 1 - i : Nat) : Int) : Int) : Rat) = Ms * ((T - 1 - i : Nat) : Rat) := by rw [Rat.intCast_mul, Rat.intCast_natCast]
    rw [e1, e2, fldT hm (by grind)] at d
    generalize (divN (x * (Ms + ieT Ms x T i)) (Ms * ((T - 1 - i : Nat) : Int)) : Rat) = D at *
    generalize ((T - 1 - i : Nat) : Rat) = k at *
    generalize (ieT Ms x T i : Rat) = y at *
    generalize uE r T i = u at *
    generalize (Ms : Rat) = m at *
    have c1 : 0 ≤ r / k := le_rdiv (by grind) (by grind)
    have c2 : r / k ≤ 1 / 256 := rdiv_le (by grind) (by grind)
    have p := rabs_mul (a := r / k) (A := 1 / 256) (by grind) c2 a b
    have e3 : r / k * (m + y) - m * (r / k * (1 + u)) = r / k * (y - m * u) := by grind
    generalize r / k = q at *
    constructor <;> grind
theorem pow_pos_q {M : Int} {R : Nat} (hM : 0 < M) : (0 : Rat) < M * 2 ^ R := by
  have hm : (0 : Rat) < M := by exact_mod_cast hM
  exact Rat.mul_pos hm (c2pos R)
theorem cast_M2 (M : Int) (R : Nat) : ((M * 2 ^ R : Int) : Rat) = M * 2 ^ R := by rw [Rat.intCast_mul, cast_two_pow]
theorem base_lo {y e N u G w : Rat} (hN : 0 < N) (a : y - N * u ≤ 503 / 1000) (hw : 0 ≤ w) (he : 503 / 1000 + w / 30 ≤ e) (u1 : 1 + u = G) : 1 + (y - e) / N ≤ G := by
  have h : (y - e) / N ≤ u := rdiv_le hN (by grind)
  grind
theorem base_hi {y e N u G w t r P X m : Rat} (hN : 0 < N) (hr : r * N = X) (exM : w * m = X) (a : -(503 / 1000) ≤ y - N * u) (hw : 0 ≤ w) (he : 503 / 1000 + w / 30 ≤ e) (u1 : 1 + u = G) (sm : 6 * t ≤ r * P) (h2 : P * (10 * m) ≤ 1) : G + 2 * t ≤ 1 + (y + e) / N := by
  have k1 := Rat.mul_nonneg (show 0 ≤ r * P - 6 * t by grind) (Rat.le_of_lt hN)
  have e6 : r * P * N = X * P := by rw [← hr]; grind
  have k2 := Rat.mul_nonneg hw (show 0 ≤ 1 - P * (10 * m) by grind)
  have e7 : X * P = w * (P * m) := by rw [← exM]; grind
  have h : u + 2 * t ≤ (y + e) / N := le_rdiv hN (by grind)
  grind
theorem base_up {y N u u0 r X : Rat} (hr : r * N = X) (hx : 0 ≤ X) (us : u = r * (1 + u0)) (ub : u0 ≤ 1 / 128) (a : y - N * u ≤ 503 / 1000) : y ≤ X * (129 / 128) + 503 / 1000 := by
  have k1 := Rat.mul_nonneg hx (show 0 ≤ 1 / 128 - u0 by grind)
  have e5 : N * u = X * (1 + u0) := by rw [us, ← hr]; grind
  grind
/-- what the Taylor loop tells -/
theorem ie_base {p R : Nat} {x M : Int} {e : Rat} (hp : 3 ≤ p) (hM : M = 10 ^ p) (hx : 0 ≤ x) (hR : 256 * x < M * 2 ^ R) (he : 503 / 1000 + (x : Rat) / (30 * M) ≤ e) :
    0 ≤ ieY p x M R ∧ (ieY p x M R : Rat) ≤ (x : Rat) * (129 / 128) + 503 / 1000 ∧
    Ug ((x : Rat) / (M * 2 ^ R)) (1 + ((ieY p x M R : Rat) - e) / (M * 2 ^ R)) ∧ Lg ((x : Rat) / (M * 2 ^ R)) (1 + ((ieY p x M R : Rat) + e) / (M * 2 ^ R)) := by
  have hM0 : 0 < M := by rw [hM]; exact Int.pow_pos (by decide)
  have hm : (0 : Rat) < M := by exact_mod_cast hM0
  have hMs : 0 < M * 2 ^ R := by omega
  have hN := pow_pos_q (R := R) hM0
  have hxq : (0 : Rat) ≤ x := by exact_mod_cast hx
  have hT := tays_two hp
  have hRq : 256 * (x : Rat) ≤ M * 2 ^ R := by
    have := Rat.intCast_le_intCast.mpr (Int.le_of_lt hR)
    rw [Rat.intCast_mul, cast_M2] at this
    exact this
  have h0 : 0 ≤ (x : Rat) / (M * 2 ^ R) := le_rdiv hN (by grind)
  have h1 : (x : Rat) / (M * 2 ^ R) ≤ 1 / 256 := rdiv_le hN (by grind)
  have hr : (x : Rat) / (M * 2 ^ R) * ((M * 2 ^ R : Int) : Rat) = x := by rw [cast_M2]; exact fld3 hN
  have nn := ieT_nonneg (Ms := M * 2 ^ R) (T := tays p) hx hR (by omega) (tays p - 1) (by omega)
  have er := ieT_err (Ms := M * 2 ^ R) (T := tays p) (by omega) hMs h0 hr h1 (tays p - 1) (by omega)
  have u1 := uE_one ((x : Rat) / (M * 2 ^ R)) (T := tays p) (by omega)
  have ub := uE_bound h0 h1 (T := tays p) (by omega) (tays p - 2) (by omega)
  have us : uE ((x : Rat) / (M * 2 ^ R)) (tays p) (tays p - 1) = (x : Rat) / (M * 2 ^ R) * (1 + uE ((x : Rat) / (M * 2 ^ R)) (tays p) (tays p - 2)) := by
    obtain ⟨S, hS⟩ : ∃ S, tays p = S + 2 := ⟨tays p - 2, by omega⟩
    rw [hS, show S + 2 - 1 = S + 1 by omega, show S + 2 - 2 = S by omega, uE, show S + 2 - 1 - S = 1 by omega]
    push_cast
    grind
  have lo := exp_lo h0 (by grind) (tays p - 1)
  have hi := exp_hi h0 (by grind) (tays p - 1)
  rw [show tays p - 1 + 1 = tays p by omega] at lo hi
  rw [show tays p - 1 + 2 = (tays p - 2) + 3 by omega] at hi
  have sm := et_small h0 h1 (tays p - 2)
  rw [show tays p - 2 + 2 = tays p by omega] at sm
  -- 256^T is no less than 10 M
  have hb := tays_big p
  have hbq : (10 : Rat) * M ≤ 256 ^ tays p := by
    have : ((10 ^ (p + 1) : Nat) : Rat) ≤ ((256 ^ tays p : Nat) : Rat) := by exact_mod_cast hb
    have e1 : ((10 ^ (p + 1) : Nat) : Rat) = 10 * M := by
      rw [hM, Rat.intCast_pow, show (((10 : Int)) : Rat) = 10 from rfl]
      push_cast
      rw [Rat.pow_succ]; grind
    have e2 : ((256 ^ tays p : Nat) : Rat) = 256 ^ tays p := by push_cast; rfl
    grind
  have e3 : (1 / 256 : Rat) ^ tays p * 256 ^ tays p = 1 := by
    rw [← rmul_pow, show (1 / 256 : Rat) * 256 = 1 by grind, one_rpow]
  have hPp : (0 : Rat) < (1 / 256) ^ tays p := rpow_pos (by grind) _
  have h2 : (1 / 256 : Rat) ^ tays p * (10 * M) ≤ 1 := by
    have := Rat.mul_le_mul_of_nonneg_left hbq (Rat.le_of_lt hPp)
    grind
  have eY : ieY p x M R = ieT (M * 2 ^ R) x (tays p) (tays p - 1) := rfl
  rw [← eY, cast_M2] at er
  rw [← eY] at nn
  rw [cast_M2] at hr
  have ex30 : (x : Rat) / (30 * M) = (x : Rat) / M / 30 := by have : (M : Rat) ≠ 0 := by grind
                                                              grind
  have exM : (x : Rat) / M * M = x := fld3 hm
  have exM0 : 0 ≤ (x : Rat) / M := le_rdiv hm (by grind)
  rw [ex30] at he
  exact ⟨nn.1, base_up hr hxq us ub.2 er.2, lo.mono Rat.le_refl (base_lo hN er.2 exM0 he u1), hi.mono Rat.le_refl (base_hi hN hr exM er.1 exM0 he u1 sm h2)⟩
theorem fldD {n y : Rat} (hn : 0 < n) : y * (y + 4 * n) / (4 * n) = y + y * y / (4 * n) := by
  have : n ≠ 0 := by grind
  grind
/-- one doubling -/
theorem dbl_step {n y : Int} {r e e' : Rat} (hn : 0 < n) (h0 : 0 ≤ y) (he : 0 ≤ e) (hl : Lg r (1 + ((y : Rat) + e) / (2 * n))) (hu : Ug r (1 + ((y : Rat) - e) / (2 * n))) (hpos : e < 2 * n)
    (he' : 1 / 2 + e * (1 + (2 * y + e) / (4 * n)) ≤ e') :
    Lg (2 * r) (1 + ((divN (y * (y + 4 * n)) (4 * n) : Rat) + e') / n) ∧ Ug (2 * r) (1 + ((divN (y * (y + 4 * n)) (4 * n) : Rat) - e') / n) := by
  have hnq : (0 : Rat) < n := by exact_mod_cast hn
  have hyq : (0 : Rat) ≤ y := by exact_mod_cast h0
  have d := divN_rat (y * (y + 4 * n)) (b := 4 * n) (by omega)
  have e1 : ((y * (y + 4 * n) : Int) : Rat) = y * (y + 4 * n) := by push_cast; rfl
  have e2 : ((4 * n : Int) : Rat) = 4 * n := by push_cast; rfl
  rw [e1, e2, fldD hnq] at d
  generalize (divN (y * (y + 4 * n)) (4 * n) : Rat) = D at *
  generalize (y : Rat) = z at *
  generalize (n : Rat) = m at *
  have m0 : m ≠ 0 := by grind
  have e3 : ∀ q : Rat, (1 + q / (2 * m)) * (1 + q / (2 * m)) = 1 + (q + q * q / (4 * m)) / m := by intro q; grind
  have pos : 0 < 1 + (z - e) / (2 * m) := by
    have : -1 < (z - e) / (2 * m) := by
      rcases rlt_or_le (-1) ((z - e) / (2 * m)) with g | g
      · exact g
      · have h5 := Rat.mul_le_mul_of_nonneg_right g (show (0 : Rat) ≤ 2 * m by grind)
        rw [fld3 (show (0 : Rat) < 2 * m by grind)] at h5
        grind
    grind
  have a := Lg.add hl hl
  have b := Ug.add pos hu hu
  rw [e3] at a b
  have e4 : (z + e) + (z + e) * (z + e) / (4 * m) = z + z * z / (4 * m) + e * (1 + (2 * z + e) / (4 * m)) := by grind
  have e5 : (z - e) + (z - e) * (z - e) / (4 * m) = z + z * z / (4 * m) - e * (1 + (2 * z - e) / (4 * m)) := by grind
  have e6 : e * (1 + (2 * z - e) / (4 * m)) ≤ e * (1 + (2 * z + e) / (4 * m)) := by
    have : (2 * z - e) / (4 * m) ≤ (2 * z + e) / (4 * m) := by
      refine rdiv_le (by grind) ?_
      rw [fld3 (show (0 : Rat) < 4 * m by grind)]; grind
    have := Rat.mul_nonneg he (show 0 ≤ (2 * z + e) / (4 * m) - (2 * z - e) / (4 * m) by grind)
    grind
  rw [e4] at a
  rw [e5] at b
  refine ⟨a.mono (by grind) ?_, b.mono (by grind) ?_⟩
  · have : (z + z * z / (4 * m) + e * (1 + (2 * z + e) / (4 * m))) / m ≤ (D + e') / m := by
      refine rdiv_le hnq ?_
      rw [fld3 hnq]; grind
    grind
  · have : (D - e') / m ≤ (z + z * z / (4 * m) - e * (1 + (2 * z - e) / (4 * m))) / m := by
      refine rdiv_le hnq ?_
      rw [fld3 hnq]; grind
    grind
end Mine

end
section
namespace Mine
/-- bounds of y / (M 2^L) and of its error, level by level -/
def zh : Nat → Rat
  | 0 => 9343247 / 1000000
  | 1 => 1108007 / 500000
  | 2 => 158651 / 200000
  | 3 => 169539 / 500000
  | 4 => 78579 / 500000
  | 5 => 37849 / 500000
  | 6 => 37151 / 1000000
  | 7 => 9201 / 500000
  | 8 => 9157 / 1000000
  | 9 => 4567 / 1000000
  | _ => 57 / 25000
def eh : Nat → Rat
  | 0 => 223167 / 5000
  | 1 => 34271 / 2500
  | 2 => 36809 / 5000
  | 3 => 5123 / 1000
  | 4 => 39947 / 10000
  | 5 => 16243 / 5000
  | 6 => 53 / 20
  | 7 => 21111 / 10000
  | 8 => 3991 / 2500
  | 9 => 5457 / 5000
  | _ => 59 / 100
theorem zh_step : ∀ L : Fin 10, 2 * zh (L + 1) + zh (L + 1) * zh (L + 1) + 1 / (2000 * 2 ^ (L : Nat)) ≤ zh L := by decide +kernel
theorem eh_step : ∀ L : Fin 10, 1 / 2 + eh (L + 1) * (1 + zh (L + 1) + eh (L + 1) / (4000 * 2 ^ (L : Nat))) ≤ eh L := by decide +kernel
theorem zh_base : ∀ L : Fin 10, (1 / 256 * (129 / 128) : Rat) + 503 / (1000000 * 2 ^ (L : Nat)) ≤ zh L := by decide +kernel
theorem zh_top : (231 / 102400 * (129 / 128) : Rat) + 503 / (1000000 * 2 ^ 10) ≤ zh 10 := by decide +kernel
theorem eh_base : ∀ L : Fin 11, (59 / 100 : Rat) ≤ eh L := by decide +kernel
theorem eh_small : ∀ L : Fin 11, eh L ≤ 45 := by decide +kernel
theorem zh_size : ∀ L : Fin 11, zh L * 2 ^ (L : Nat) ≤ 11 ∧ 0 ≤ zh L := by decide +kernel
theorem ge_k {M : Int} (hM : 1000 ≤ M) (L : Nat) : (1000 : Rat) * 2 ^ L ≤ M * 2 ^ L := by
  have := Rat.mul_nonneg (show (0 : Rat) ≤ M - 1000 by have := cast_k hM; grind) (Rat.le_of_lt (c2pos L))
  grind
theorem dbl_num {n P y z z' D : Rat} (hP : 0 < P) (hn : 1000 * P ≤ n) (hy : y ≤ z * (2 * n)) (y0 : 0 ≤ y) (hd : D ≤ y + y * y / (4 * n) + 1 / 2) (hz : 2 * z + z * z + 1 / (2000 * P) ≤ z') : D ≤ z' * n := by
  have hn0 : 0 < n := by grind
  have e1 : 1 / (2000 * P) * (2000 * P) = 1 := fld3 (by grind)
  have i0 : 0 < 1 / (2000 * P) := rdiv_pos (by grind) (by grind)
  have k1 := Rat.mul_nonneg (Rat.le_of_lt i0) (show 0 ≤ n - 1000 * P by grind)
  have k2 := Rat.mul_nonneg (show 0 ≤ z' - (2 * z + z * z + 1 / (2000 * P)) by grind) (Rat.le_of_lt hn0)
  have k3 : y * y / (4 * n) ≤ z * z * n := by
    refine rdiv_le (by grind) ?_
    have a := Rat.mul_nonneg (show 0 ≤ z * (2 * n) - y by grind) (show 0 ≤ z * (2 * n) + y by grind)
    grind
  generalize 1 / (2000 * P) = i at *
  grind
theorem dbl_num2 {n P y z e e' : Rat} (hP : 0 < P) (hn : 1000 * P ≤ n) (hy : y ≤ z * (2 * n)) (he0 : 0 ≤ e) (he : 1 / 2 + e * (1 + z + e / (4000 * P)) ≤ e') : 1 / 2 + e * (1 + (2 * y + e) / (4 * n)) ≤ e' := by
  have hn0 : 0 < n := by grind
  have k : (2 * y + e) / (4 * n) ≤ z + e / (4000 * P) := by
    refine rdiv_le (by grind) ?_
    have e1 : e / (4000 * P) * (4000 * P) = e := fld3 (by grind)
    have i0 : 0 ≤ e / (4000 * P) := le_rdiv (by grind) (by grind)
    have k1 := Rat.mul_nonneg i0 (show 0 ≤ n - 1000 * P by grind)
    grind
  have := Rat.mul_nonneg he0 (show 0 ≤ z + e / (4000 * P) - (2 * y + e) / (4 * n) by grind)
  grind
/-- the state at level L -/
def LevAt (x M : Int) (L : Nat) (y : Int) : Prop := 0 ≤ y ∧ (y : Rat) ≤ zh L * (M * 2 ^ L) ∧ Lg ((x : Rat) / (M * 2 ^ L)) (1 + ((y : Rat) + eh L) / (M * 2 ^ L)) ∧ Ug ((x : Rat) / (M * 2 ^ L)) (1 + ((y : Rat) - eh L) / (M * 2 ^ L))
theorem lev_step {x M y : Int} {L : Nat} (hM : 1000 ≤ M) (hL : L < 10) (h : LevAt x M (L + 1) y) : LevAt x M L (divN (y * (y + 4 * (M * 2 ^ L))) (4 * (M * 2 ^ L))) := by
  obtain ⟨y0, yz, hl, hu⟩ := h
  have hPi : (0 : Int) < 2 ^ L := Int.pow_pos (by decide)
  have hn : 0 < M * 2 ^ L := Int.mul_pos (by omega) hPi
  have hP := c2pos L
  have hk := ge_k hM L
  have hnq : (0 : Rat) < M * 2 ^ L := by grind
  have e1 : (M : Rat) * 2 ^ (L + 1) = 2 * (M * 2 ^ L) := by rw [Rat.pow_succ]; grind
  rw [e1] at yz hl hu
  have zs := zh_step ⟨L, hL⟩
  have es := eh_step ⟨L, hL⟩
  have eb := eh_base ⟨L + 1, by omega⟩
  have esm := eh_small ⟨L + 1, by omega⟩
  simp only [Fin.val_mk] at zs es eb esm
  have yq : (0 : Rat) ≤ y := by exact_mod_cast y0
  have hP1 := two_pow_ge L
  have d := divN_rat (y * (y + 4 * (M * 2 ^ L))) (b := 4 * (M * 2 ^ L)) (by omega)
  have c1 : ((y * (y + 4 * (M * 2 ^ L)) : Int) : Rat) = y * (y + 4 * (M * 2 ^ L)) := by rw [Rat.intCast_mul, Rat.intCast_add, Rat.intCast_mul, cast_M2]; rfl
  have c2 : ((4 * (M * 2 ^ L) : Int) : Rat) = 4 * (M * 2 ^ L) := by rw [Rat.intCast_mul, cast_M2]; rfl
  rw [c1, c2, fldD hnq] at d
  have st := dbl_step (n := M * 2 ^ L) (y := y) (r := (x : Rat) / (2 * (M * 2 ^ L))) (e := eh (L + 1)) (e' := eh L) hn y0 (by grind) (by rw [cast_M2]; exact hl) (by rw [cast_M2]; exact hu) (by rw [cast_M2]; grind) (by rw [cast_M2]; exact dbl_num2 hP hk yz (by grind) es)
  rw [cast_M2] at st
  have e2 : 2 * ((x : Rat) / (2 * (M * 2 ^ L))) = (x : Rat) / (M * 2 ^ L) := by
    generalize (M : Rat) * 2 ^ L = n at *
    have : n ≠ 0 := by grind
    grind
  rw [e2] at st
  refine ⟨le_divN (by omega) ?_, dbl_num hP hk yz yq (by grind) zs, st.1, st.2⟩
  rw [Int.zero_mul]
  exact Int.mul_nonneg y0 (by omega)
theorem lev_R {x M : Int} {R : Nat} (hM : 0 < M) (hx2 : 100 * x ≤ 231 * M) (hRR : R = 0 ∨ M * 2 ^ R ≤ 512 * x) : R ≤ 10 := by
  rcases hRR with h | h
  · omega
  · rcases Nat.lt_or_ge 10 R with g | g
    · exfalso
      obtain ⟨k, rfl⟩ : ∃ k, R = 11 + k := ⟨R - 11, by omega⟩
      rw [Int.pow_add] at h
      have : (0 : Int) < 2 ^ k := Int.pow_pos (by decide)
      have h1 : M * 2048 ≤ M * (2 ^ 11 * 2 ^ k) := Int.mul_le_mul_of_nonneg_left (by
        have : (2 : Int) ^ 11 = 2048 := by decide
        omega) (by omega)
      omega
    · exact g
theorem base_z {y X N z i c : Rat} (hb : y ≤ X * (129 / 128) + 503 / 1000) (hX : X ≤ c * N) (hz : c * (129 / 128) + i ≤ z) (hN : 0 ≤ N) (hi : 503 / 1000 ≤ i * N) : y ≤ z * N := by
  have := Rat.mul_nonneg (show 0 ≤ z - (c * (129 / 128) + i) by grind) hN
  grind
theorem lev_base {p R : Nat} {x M : Int} (hp : 3 ≤ p) (hM : M = 10 ^ p) (hx : 0 ≤ x) (hx2 : 100 * x ≤ 231 * M) (hR : 256 * x < M * 2 ^ R) (hRR : R = 0 ∨ M * 2 ^ R ≤ 512 * x) : LevAt x M R (ieY p x M R) := by
  have hMk : 1000 ≤ M := by
    rw [hM]
    obtain ⟨q, rfl⟩ : ∃ q, p = 3 + q := ⟨p - 3, by omega⟩
    rw [Int.pow_add]
    have : (0 : Int) < 10 ^ q := Int.pow_pos (by decide)
    have : (10 : Int) ^ 3 = 1000 := by decide
    omega
  have hR10 := lev_R (by omega) hx2 hRR
  have hm := cast_k hMk
  have hm0 : (0 : Rat) < M := by grind
  have hx2q : 100 * (x : Rat) ≤ 231 * M := by
    have := Rat.intCast_le_intCast.mpr hx2
    rw [Rat.intCast_mul, Rat.intCast_mul] at this
    exact this
  have hRq : 256 * (x : Rat) ≤ M * 2 ^ R := by
    have := Rat.intCast_le_intCast.mpr (Int.le_of_lt hR)
    rw [Rat.intCast_mul, cast_M2] at this
    exact this
  have eb := eh_base ⟨R, by omega⟩
  have x30 : (x : Rat) / (30 * M) ≤ 231 / 3000 := rdiv_le (by grind) (by grind)
  obtain ⟨a, b, c, d⟩ := ie_base (R := R) (e := eh R) hp hM hx hR (by grind)
  refine ⟨a, ?_, d, c⟩
  have hk := ge_k hMk R
  have hP := c2pos R
  have i0 : 0 < 503 / (1000000 * (2 : Rat) ^ R) := rdiv_pos (by grind) (by grind)
  have e1 : 503 / (1000000 * (2 : Rat) ^ R) * (1000000 * 2 ^ R) = 503 := fld3 (by grind)
  have k1 := Rat.mul_nonneg (Rat.le_of_lt i0) (show (0 : Rat) ≤ M * 2 ^ R - 1000 * 2 ^ R by grind)
  have hi : 503 / 1000 ≤ 503 / (1000000 * (2 : Rat) ^ R) * (M * 2 ^ R) := by grind
  have hN0 : (0 : Rat) ≤ M * 2 ^ R := by grind
  rcases Nat.lt_or_ge R 10 with g | g
  · exact base_z (c := 1 / 256) b (by grind) (zh_base ⟨R, g⟩) hN0 hi
  · obtain rfl : R = 10 := by omega
    have e10 : (2 : Rat) ^ 10 = 1024 := by decide +kernel
    exact base_z (c := 231 / 102400) b (by rw [e10]; grind) zh_top hN0 hi
/-- all levels -/
theorem lev_all {p R : Nat} {x M : Int} (hp : 3 ≤ p) (hM : M = 10 ^ p) (hMk : 1000 ≤ M) (hx : 0 ≤ x) (hx2 : 100 * x ≤ 231 * M) (hR : 256 * x < M * 2 ^ R) (hRR : R = 0 ∨ M * 2 ^ R ≤ 512 * x) : ∀ j, j ≤ R → LevAt x M (R - j) (ieD M (ieY p x M R) R j)
  | 0, _ => lev_base hp hM hx hx2 hR hRR
  | j + 1, h => by
    have ih := lev_all hp hM hMk hx hx2 hR hRR j (by omega)
    have hR10 := lev_R (show 0 < M by omega) hx2 hRR
    obtain ⟨L, hL⟩ : ∃ L, R - j = L + 1 := ⟨R - j - 1, by omega⟩
    rw [hL] at ih
    have st := lev_step hMk (by omega) ih
    have e1 : R - (j + 1) = L := by omega
    have e2 : M * 2 ^ (R + 1 - j) = 4 * (M * 2 ^ L) := by
      rw [show R + 1 - j = L + 2 by omega, Int.pow_add, show (2 : Int) ^ 2 = 4 by decide]; grind
    rw [e1, ieD, e2]
    exact st
theorem ie_ok {p : Nat} {x M : Int} (hp : 3 ≤ p) (hM : M = 10 ^ p) (hx : 0 ≤ x) (hx2 : 100 * x ≤ 231 * M) : IeOk p x M := by
  intro R hR hRR
  have hM0 : 0 < M := by rw [hM]; exact Int.pow_pos (by decide)
  have hR10 := lev_R hM0 hx2 hRR
  have hMk : 1000 ≤ M := by
    rw [hM]
    obtain ⟨q, rfl⟩ : ∃ q, p = 3 + q := ⟨p - 3, by omega⟩
    rw [Int.pow_add]
    have : (0 : Int) < 10 ^ q := Int.pow_pos (by decide)
    have : (10 : Int) ^ 3 = 1000 := by decide
    omega
  refine ⟨by omega, fun j hj => ?_⟩
  obtain ⟨a, b, _, _⟩ := lev_all hp hM hMk hx hx2 hR hRR j hj
  refine ⟨a, ?_⟩
  have z := (zh_size ⟨R - j, by omega⟩).1
  have hm : (0 : Rat) < M := by exact_mod_cast hM0
  have k := Rat.mul_nonneg (show (0 : Rat) ≤ 11 - zh (R - j) * 2 ^ (R - j) by grind) (Rat.le_of_lt hm)
  have h2 : (ieD M (ieY p x M R) R j : Rat) ≤ ((11 * M : Int) : Rat) := by
    rw [Rat.intCast_mul, show (((11 : Int)) : Rat) = 11 from rfl]
    grind
  have := Rat.intCast_le_intCast.mp h2
  omega
/-- the answer of _iexp against exp -/
theorem ie_final {p : Nat} {x M E : Int} (hp : 3 ≤ p) (hM : M = 10 ^ p) (hMk : 1000 ≤ M) (hx : 0 ≤ x) (hx2 : 100 * x ≤ 231 * M) (h : IsIexp p x M E) :
    M ≤ E ∧ (E : Rat) ≤ (1 + zh 0) * M ∧ Lg ((x : Rat) / M) (((E : Rat) + eh 0) / M) ∧ Ug ((x : Rat) / M) (((E : Rat) - eh 0) / M) := by
  obtain ⟨R, hR, hRR, rfl⟩ := h
  obtain ⟨a, b, c, d⟩ := lev_all hp hM hMk hx hx2 hR hRR R (Nat.le_refl R)
  rw [Nat.sub_self, Rat.pow_zero, Rat.mul_one] at b c d
  have hm := cast_k hMk
  have hm0 : (M : Rat) ≠ 0 := by grind
  generalize ieD M (ieY p x M R) R R = y at *
  have ec : ((M + y : Int) : Rat) = M + y := by push_cast; rfl
  rw [ec]
  have e1 : 1 + ((y : Rat) + eh 0) / M = ((M : Rat) + y + eh 0) / M := by grind
  have e2 : 1 + ((y : Rat) - eh 0) / M = ((M : Rat) + y - eh 0) / M := by grind
  rw [e1] at c
  rw [e2] at d
  exact ⟨by omega, by grind, c, d⟩
end Mine

end
section
namespace Mine
open PySem.W
/-! reductions from a tenth up to one: bounds of |y| / M, of s / M, of 1 + v, of the error -/
def uN : Nat → Rat
  | 0 => 9 / 10
  | 1 => 13709 / 10000
  | 2 => 17589 / 10000
  | 3 => 10069 / 5000
  | 4 => 21613 / 10000
  | 5 => 11207 / 5000
  | 6 => 22837 / 10000
  | 7 => 11531 / 5000
  | 8 => 23183 / 10000
  | 9 => 5813 / 2500
  | _ => 4659 / 2000
def sN : Nat → Rat
  | 0 => 627 / 2000
  | 1 => 5593 / 10000
  | 2 => 7473 / 10000
  | 3 => 108 / 125
  | 4 => 929 / 1000
  | 5 => 4817 / 5000
  | 6 => 981 / 1000
  | 7 => 99 / 100
  | 8 => 1989 / 2000
  | 9 => 623 / 625
  | _ => 99 / 100
def lN : Nat → Rat
  | 0 => 989 / 10000
  | 1 => 3139 / 10000
  | 2 => 5599 / 10000
  | 3 => 187 / 250
  | 4 => 1081 / 1250
  | 5 => 9299 / 10000
  | 6 => 4821 / 5000
  | 7 => 9819 / 10000
  | 8 => 9909 / 10000
  | 9 => 4977 / 5000
  | _ => 99 / 100
def aN : Nat → Rat
  | 0 => 0 / 1
  | 1 => 11997 / 1000
  | 2 => 3279 / 200
  | 3 => 19089 / 1000
  | 4 => 5301 / 250
  | 5 => 577 / 25
  | 6 => 24847 / 1000
  | 7 => 26563 / 1000
  | 8 => 14127 / 500
  | 9 => 29933 / 1000
  | _ => 31607 / 1000
theorem sN_ok : ∀ R : Fin 10, sN R * sN R + 16 / 10000 ≤ 1 - uN R / 2 ^ (R : Nat) ∧ 0 < sN R ∧ sN R ≤ 1 := by decide +kernel
theorem uN_ok : ∀ R : Fin 10, 2 * uN R / (1 + sN R) + 1 / 2000 ≤ uN (R + 1) ∧ 0 ≤ uN R ∧ uN (R + 1) ≤ 5 / 2 := by decide +kernel
theorem lN_ok : ∀ R : Fin 10, 0 < lN R ∧ lN R ≤ 1 - uN R / 2 ^ (R : Nat) ∧ lN R ≤ (1 - uN (R + 1) / 2 ^ ((R : Nat) + 1)) * (1 - uN (R + 1) / 2 ^ ((R : Nat) + 1)) ∧ 0 < 1 - uN (R + 1) / 2 ^ ((R : Nat) + 1) := by decide +kernel
theorem aN_ok : ∀ R : Fin 10, aN R + (uN (R + 1) / 2 + 1 / 2 + 1 / 1000) / lN R ≤ aN (R + 1) := by decide +kernel
theorem uN_fin : ∀ R : Fin 11, uN R / 2 ^ (R : Nat) ≤ 9 / 10 ∧ uN R ≤ 5 / 2 ∧ aN R ≤ 32 := by decide +kernel
theorem sqN {M r s u σ : Rat} (hM : 1000 ≤ M) (hs0 : 0 < s) (hσ : σ * σ + 16 / 10000 ≤ 1 - u) (hσ1 : σ ≤ 1) (hσ0 : 0 < σ) (hr : -(u * M) - 1 / 2 ≤ r) (h2 : M * (M + r) ≤ s * s + s) : σ * M ≤ s := by
  rcases rlt_or_le s (σ * M) with g | g
  · exfalso
    have a := Rat.mul_nonneg (show 0 ≤ σ * M - s by grind) (show 0 ≤ σ * M + s + 1 by grind)
    have b := Rat.mul_nonneg (show 0 ≤ M by grind) (show 0 ≤ r + u * M + 1 / 2 by grind)
    have c := Rat.mul_nonneg (show 0 ≤ M * M from rsq_nonneg M) (show 0 ≤ 1 - u - (σ * σ + 16 / 10000) by grind)
    have d := Rat.mul_nonneg (show 0 ≤ M by grind) (show 0 ≤ M - 1000 by grind)
    have e := Rat.mul_nonneg (show 0 ≤ M by grind) (show 0 ≤ 1 - σ by grind)
    grind
  · exact g
theorem yN {M y s u u' σ d : Rat} (hM : 1000 ≤ M) (hs : σ * M ≤ s) (hσ0 : 0 < σ) (hy : -y ≤ u * M) (hy0 : y ≤ 0) (hu : 2 * u / (1 + σ) + 1 / 2000 ≤ u') (hd : M * y * 2 / (M + s) - 1 / 2 ≤ d) : -d ≤ u' * M := by
  have h1 : 0 < 1 + σ := by grind
  have e1 : 2 * u / (1 + σ) * (1 + σ) = 2 * u := fld3 h1
  have u0 : 0 ≤ u := by
    rcases rlt_or_le u 0 with g | g
    · have := Rat.mul_lt_mul_of_pos_right g (show 0 < M by grind)
      grind
    · exact g
  have q0 : 0 ≤ 2 * u / (1 + σ) := le_rdiv h1 (by grind)
  have hMs : 0 < M + s := by
    have := Rat.mul_pos hσ0 (show 0 < M by grind)
    grind
  have k : -(2 * u / (1 + σ) * M) ≤ M * y * 2 / (M + s) := by
    refine le_rdiv hMs ?_
    have a := Rat.mul_nonneg q0 (show 0 ≤ s - σ * M by grind)
    have b := Rat.mul_nonneg (show 0 ≤ M by grind) (show 0 ≤ u * M + y by grind)
    have c := Rat.mul_nonneg (show 0 ≤ M by grind) a
    generalize 2 * u / (1 + σ) = q at *
    have e2 : -(q * M) * (M + s) = -(M * (q * (1 + σ)) * M) - M * (q * (s - σ * M)) := by grind
    rw [e2, e1]
    grind
  have f := Rat.mul_nonneg (show 0 ≤ u' - (2 * u / (1 + σ) + 1 / 2000) by grind) (show 0 ≤ M by grind)
  grind
theorem halfN {a b : Rat} (h : -(1 / 2) ≤ a - b ∧ a - b ≤ 1 / 2) : b - 1 / 2 ≤ a ∧ a ≤ b + 1 / 2 := by
  constructor <;> grind
theorem chainT {x M : Int} (hM : 1000 ≤ M) (hx : M ≤ 10 * x) (hx2 : x ≤ M) {R : Nat} {y : Int} (h : RedTo x M R y) :
    R ≤ 10 ∧ y ≤ 0 ∧ -(y : Rat) ≤ uN R * M ∧ ∃ A, IlInv x M R y A ∧ A * M ≤ aN R := by
  have hm := cast_k hM
  have hm0 : (0 : Rat) < M := by grind
  induction h with
  | zero =>
    refine ⟨by omega, by omega, ?_, 0, IlInv.zero (by omega) (by omega), ?_⟩
    · have h2 := Rat.intCast_le_intCast.mpr hx
      rw [Rat.intCast_mul, show (((10 : Int)) : Rat) = 10 from rfl] at h2
      rw [Rat.intCast_sub]
      unfold uN; grind
    · unfold aN; grind
  | @succ R y s hr hc hs ih =>
    obtain ⟨hR10, y0, yu, A, iA, bA⟩ := ih
    have hR9 : R < 10 := by
      rcases Nat.lt_or_ge R 10 with g | g
      · exact g
      · exfalso
        obtain rfl : R = 10 := by omega
        have uf := (uN_fin ⟨10, by decide⟩).2.1
        have k := Rat.mul_nonneg (show 0 ≤ 5 / 2 - uN 10 by exact (by have := uf; simp only at this; grind)) (Rat.le_of_lt hm0)
        have h3 : ((-(2 * y) : Int) : Rat) ≤ ((5 * M : Int) : Rat) := by
          rw [Rat.intCast_neg, Rat.intCast_mul, Rat.intCast_mul, show (((2 : Int)) : Rat) = 2 from rfl, show (((5 : Int)) : Rat) = 5 from rfl]
          grind
        have h4 := Rat.intCast_le_intCast.mp h3
        have e10 : (2 : Int) ^ 10 = 1024 := by decide
        rw [e10] at hc
        omega
    obtain ⟨s1, s2, s3⟩ := sN_ok ⟨R, hR9⟩
    obtain ⟨u1, u2, u3⟩ := uN_ok ⟨R, hR9⟩
    obtain ⟨l0, l1, l2, l3⟩ := lN_ok ⟨R, hR9⟩
    have a1 := aN_ok ⟨R, hR9⟩
    simp only at s1 s2 s3 u1 u2 u3 l0 l1 l2 l3 a1
    have hPi : (0 : Int) < 2 ^ R := Int.pow_pos (by decide)
    have hP := c2pos R
    have hP' := c2pos (R + 1)
    have hr0 : divN y (2 ^ R) ≤ 0 := divN_le hPi (by omega)
    have dr := divN_rat y (b := 2 ^ R) hPi
    rw [cast_two_pow] at dr
    have hs0 : (0 : Rat) < s := by exact_mod_cast hs.1
    have q2 : (M : Rat) * (M + divN y (2 ^ R)) ≤ (s : Rat) * s + s := by exact_mod_cast hs.2.2
    have yu2 : -(uN R / 2 ^ R * M) ≤ (y : Rat) / 2 ^ R := by
      refine le_rdiv hP ?_
      have : -(uN R / 2 ^ R * M) * 2 ^ R = -(uN R * M) := by
        have : (2 : Rat) ^ R ≠ 0 := by grind
        grind
      rw [this]; grind
    have sb := sqN (r := (divN y (2 ^ R) : Rat)) (u := uN R / 2 ^ R) hm hs0 s1 s3 s2 (by have := (halfN dr).1; grind) q2
    have y'0 : divN (M * y * 2) (M + s) ≤ 0 := divN_le (by have := hs.1; omega) (by
      have := Int.mul_nonpos_of_nonneg_of_nonpos (show 0 ≤ M by omega) y0
      omega)
    have d1 := divN_rat (M * y * 2) (b := M + s) (by have := hs.1; omega)
    have eM : (((M * y * 2 : Int) : Rat)) = M * y * 2 := by push_cast; rfl
    have eS : (((M + s : Int) : Rat)) = M + s := by push_cast; rfl
    rw [eM, eS] at d1
    have y0q : (y : Rat) ≤ 0 := by exact_mod_cast y0
    have yq0 : ((divN (M * y * 2) (M + s) : Int) : Rat) ≤ 0 := by exact_mod_cast y'0
    have yb := yN (d := ((divN (M * y * 2) (M + s) : Int) : Rat)) hm sb s2 yu y0q u1 (halfN d1).1
    have hw : 0 < (s : Rat) / M := rdiv_pos hs0 hm0
    have ev := vr_eq (R := R) (y := y) (show 0 < M by omega)
    have ev' := vr_eq (R := R + 1) (y := divN (M * y * 2) (M + s)) (show 0 < M by omega)
    have v1 : -(uN R / 2 ^ R) ≤ vr M R y := by
      refine rle_of_mul (Rat.mul_pos hP hm0) ?_
      rw [ev]
      have : -(uN R / 2 ^ R) * (2 ^ R * (M : Rat)) = -(uN R * M) := by
        have : (2 : Rat) ^ R ≠ 0 := by grind
        grind
      rw [this]; grind
    have v1' : -(uN (R + 1) / 2 ^ (R + 1)) ≤ vr M (R + 1) (divN (M * y * 2) (M + s)) := by
      refine rle_of_mul (Rat.mul_pos hP' hm0) ?_
      rw [ev']
      have : -(uN (R + 1) / 2 ^ (R + 1)) * (2 ^ (R + 1) * (M : Rat)) = -(uN (R + 1) * M) := by
        have : (2 : Rat) ^ (R + 1) ≠ 0 := by grind
        grind
      rw [this]; grind
    have v2' : vr M (R + 1) (divN (M * y * 2) (M + s)) ≤ 0 := by
      refine rle_of_mul (Rat.mul_pos hP' hm0) ?_
      rw [ev', Rat.zero_mul]; exact yq0
    have g := step_gen (θ := 1) (κ := 1 / 2) (Y := uN (R + 1) * M) (l := lN R) (show 0 < M by omega) iA hs (Or.inl rfl) (by grind) (by grind) (by
        have := Rat.mul_nonneg (show (0 : Rat) ≤ uN (R + 1) by
          have := le_rdiv (a := 2 * uN R) (b := 1 + sN R) (c := 0) (by grind) (by grind)
          grind) (Rat.le_of_lt hm0)
        grind) (by grind) l0 (by grind) (by
        have := Rat.mul_nonneg (show (0 : Rat) ≤ vr M (R + 1) (divN (M * y * 2) (M + s)) + uN (R + 1) / 2 ^ (R + 1) by grind) (show (0 : Rat) ≤ 2 + vr M (R + 1) (divN (M * y * 2) (M + s)) - uN (R + 1) / 2 ^ (R + 1) by grind)
        grind)
    refine ⟨by omega, y'0, yb, _, g, ?_⟩
    have mi : 1 / (M : Rat) ≤ 1 / 1000 := rdiv_le hm0 (by grind)
    have mi0 : 0 < (1 : Rat) / M := rdiv_pos (by grind) hm0
    have e1 : (A + (1 * (uN (R + 1) * M / (2 * M) + 1 / (4 * M)) + (1 + vr M (R + 1) (divN (M * y * 2) (M + s))) / 2 + 1 / (16 * (M : Rat))) / (lN R * M)) * M = A * M + (uN (R + 1) / 2 + 1 / 4 * (1 / M) + (1 + vr M (R + 1) (divN (M * y * 2) (M + s))) / 2 + 1 / 16 * (1 / M)) / lN R := by
      generalize vr M (R + 1) (divN (M * y * 2) (M + s)) = V
      generalize uN (R + 1) = U
      generalize lN R = l at *
      have : (M : Rat) ≠ 0 := by grind
      have : l ≠ 0 := by grind
      grind
    rw [e1]
    have k : (uN (R + 1) / 2 + 1 / 4 * (1 / M) + (1 + vr M (R + 1) (divN (M * y * 2) (M + s))) / 2 + 1 / 16 * (1 / M)) / lN R ≤ (uN (R + 1) / 2 + 1 / 2 + 1 / 1000) / lN R := by
      refine rdiv_le l0 ?_
      rw [fld3 l0]
      generalize (1 : Rat) / M = i at *
      grind
    grind
theorem redOk_T {x M : Int} (hM : 1000 ≤ M) (hx : M ≤ 10 * x) (hx2 : x ≤ M) : RedOk x M := by
  intro R y h
  obtain ⟨hR, y0, yu, _⟩ := chainT hM hx hx2 h
  have hm := cast_k hM
  have hm0 : (0 : Rat) < M := by grind
  obtain ⟨f1, f2, _⟩ := uN_fin ⟨R, by omega⟩
  simp only at f1 f2
  have hPi : (0 : Int) < 2 ^ R := Int.pow_pos (by decide)
  have hP := c2pos R
  have h3 : -(2 * y) ≤ 5 * M := by
    have k := Rat.mul_nonneg (show 0 ≤ 5 / 2 - uN R by grind) (Rat.le_of_lt hm0)
    have h3 : ((-(2 * y) : Int) : Rat) ≤ ((5 * M : Int) : Rat) := by
      rw [Rat.intCast_neg, Rat.intCast_mul, Rat.intCast_mul, show (((2 : Int)) : Rat) = 2 from rfl, show (((5 : Int)) : Rat) = 5 from rfl]
      grind
    exact Rat.intCast_le_intCast.mp h3
  have h4 : 0 < M + divN y (2 ^ R) := by
    have dr := divN_rat y (b := 2 ^ R) hPi
    rw [cast_two_pow] at dr
    have yu2 : -(uN R / 2 ^ R * M) ≤ (y : Rat) / 2 ^ R := by
      refine le_rdiv hP ?_
      have : -(uN R / 2 ^ R * M) * 2 ^ R = -(uN R * M) := by
        have : (2 : Rat) ^ R ≠ 0 := by grind
        grind
      rw [this]; grind
    have k := Rat.mul_nonneg (show 0 ≤ 9 / 10 - uN R / 2 ^ R by grind) (Rat.le_of_lt hm0)
    have h5 : ((0 : Int) : Rat) < ((M + divN y (2 ^ R) : Int) : Rat) := by
      rw [Rat.intCast_add, show (((0 : Int)) : Rat) = 0 from rfl]
      have := (halfN dr).1
      grind
    exact Rat.intCast_lt_intCast.mp h5
  exact ⟨by omega, by omega, by omega, h4⟩
/-- the answer of _ilog from a tenth up to one -/
theorem ilog_T {p : Nat} {x M D : Int} (hp : 3 ≤ p) (hM : M = 10 ^ p) (hMk : 1000 ≤ M) (hx : M ≤ 10 * x) (hx2 : x ≤ M) (hD : IsIlog p x M D) :
    Lg (((D : Rat) - 35) / M) ((x : Rat) / M) ∧ Ug (((D : Rat) + 35) / M) ((x : Rat) / M) := by
  obtain ⟨R, y, hr, hc, rfl⟩ := hD
  obtain ⟨hR, y0, yu, A, iA, bA⟩ := chainT hMk hx hx2 hr
  obtain ⟨f1, f2, f3⟩ := uN_fin ⟨R, by omega⟩
  simp only at f1 f2 f3
  have hm := cast_k hMk
  have hm0 : (0 : Rat) < M := by grind
  have y0q : (y : Rat) ≤ 0 := by exact_mod_cast y0
  have k := Rat.mul_nonneg (show 0 ≤ 5 / 2 - uN R by grind) (Rat.le_of_lt hm0)
  have f := il_final (κ := 1 / 2) (Y := 5 / 2 * (M : Rat)) hp hM iA hc (Or.inl rfl) (by grind) (by grind)
  have e4 : 5 / 2 * (M : Rat) / M = 5 / 2 := by have : (M : Rat) ≠ 0 := by grind
                                                grind
  rw [e4] at f
  generalize (ilTail p M R y : Rat) = D at *
  constructor
  · refine f.1.mono (rdiv_le hm0 ?_) Rat.le_refl
    rw [fld3 hm0]; grind
  · refine f.2.mono (rdiv_le hm0 ?_) Rat.le_refl
    rw [fld3 hm0]; grind
end Mine

end
section
open PySem PySem.W PyProof.Rows
namespace Mine
theorem l10_pos0 : ∀ q : Fin 47, 0 < l10 q ∧ 10 ^ (q : Nat) * 2302 ≤ 1000 * l10 q ∧ 1000 * l10 q ≤ 2303 * 10 ^ (q : Nat) ∨ (q : Nat) < 3 ∧ 0 < l10 q := by decide +kernel
theorem l10_pos (q : Nat) (h : q ≤ 46) : 0 < l10 q := by
  rcases l10_pos0 ⟨q, by omega⟩ with h | h
  · exact h.1
  · exact h.2
theorem l10_hi {q : Nat} (h : q ≤ 46) (h3 : 3 ≤ q) : 1000 * l10 q ≤ 2303 * 10 ^ q := by
  rcases l10_pos0 ⟨q, by omega⟩ with h | h
  · exact h.2.2
  · have := h.1
    simp only at this
    omega
/-- the rest that _dexp hands to _iexp -/
theorem dxr_ok {n : Nat} {c e : Int} (hn : 3 ≤ n) (hq : n + dxE c e ≤ 46) : 0 ≤ dxR n c e ∧ 100 * dxR n c e ≤ 231 * 10 ^ n := by
  have hl := l10_pos _ hq
  have hh := l10_hi hq (by omega)
  have hp : (0 : Int) < 10 ^ dxE c e := Int.pow_pos (by decide)
  have hpn : (1000 : Int) ≤ 10 ^ n := by
    obtain ⟨k, rfl⟩ : ∃ k, n = 3 + k := ⟨n - 3, by omega⟩
    rw [Int.pow_add]
    have : (0 : Int) < 10 ^ k := Int.pow_pos (by decide)
    have : (10 : Int) ^ 3 = 1000 := by decide
    omega
  have r0 := Int.emod_nonneg (dxC n c e) (b := l10 (n + dxE c e)) (by omega)
  have r1 := Int.emod_lt_of_pos (dxC n c e) hl
  unfold dxR
  generalize dxC n c e % l10 (n + dxE c e) = r at *
  refine ⟨le_divN hp (by omega), ?_⟩
  have b := (divN_bounds r hp).2
  rw [Int.pow_add] at hh
  generalize divN r (10 ^ dxE c e) = d at *
  generalize (10 : Int) ^ dxE c e = P at *
  generalize (10 : Int) ^ n = N at *
  -- 1000 r ≤ 2303 N P; 2 d P ≤ 2 r + P
  rcases Int.lt_or_le (231 * N) (100 * d) with g | g
  · exfalso
    have h1 : (231 * N + 1) * P ≤ 100 * d * P := Int.mul_le_mul_of_nonneg_right (by omega) (by omega)
    have e1 : (231 * N + 1) * P = 231 * (N * P) + P := by grind
    have e2 : 100 * d * P = 100 * (d * P) := by grind
    have h2 : 1000 * P ≤ N * P := Int.mul_le_mul_of_nonneg_right hpn (by omega)
    omega
  · exact g
theorem dxr_ie {n : Nat} {c e : Int} (hn : 3 ≤ n) (hq : n + dxE c e ≤ 46) : IeOk n (dxR n c e) (10 ^ n) := ie_ok hn rfl (dxr_ok hn hq).1 (dxr_ok hn hq).2
theorem dxr_4 {n : Nat} {c e : Int} (hn : 3 ≤ n) (hq : n + dxE c e ≤ 46) : dxR n c e ≤ 4 * 10 ^ n := by
  have := (dxr_ok hn hq)
  have : (0 : Int) < 10 ^ n := Int.pow_pos (by decide)
  omega
/-- a call that gives back this very value -/
abbrev ConV (prog : Program) (w : World) (K : Frag) (p : Program) (loose : List Str) (mean : ExcName → Option Value) (mg mb : Str → Option Value) (d : Nat) (f : Addr) (vs : List Value) (v : Value) : Prop :=
  ∀ (news : List (Addr × Obj)) (dp un : Nat) (gd : Option (List Code)) (cn : Str) (cs : Scope) (a : Addr) (ccd : Value) (cl : List (Str × Addr)) (outer : List Env) (A₀ : Around) (base h₀ : Heap) (L : Addr) (m : Str → Option Value) (s : Shared) (Q E : Value → Shared → Prop),
    Below A₀ base outer h₀ → Fr h₀ L s.heap m → K.In h₀ → News h₀ L s.heap news → Top p loose mean mg mb h₀ → cs.kind = .function →
    dp + d < recursionLimit → un + 8 * d < cLine →
    (∀ (h' : Heap) (tk' : Nat), Fr h₀ L h' m → News h₀ L h' news → Q v { s with heap := h', toks := tk' }) →
      wpAny (model prog w) (ktrTop dp un gd cn cs L a ccd cl outer) (call (.ref f) vs) Q E s
theorem con_retV {h₀ h' : Heap} {L : Addr} {m : Str → Option Value} {news news' : List (Addr × Obj)} {s : Shared} {Q : Value → Shared → Prop} {v u : Value} {tk' : Nat}
   (hret : ∀ (h' : Heap) (tk' : Nat), Fr h₀ L h' m → News h₀ L h' news → Q v { s with heap := h', toks := tk' })
   (hv : u = v) (F : Fr h₀ L h' m) (N : News h₀ L h' news') (hs : ∀ p ∈ news, p ∈ news') : Q u { s with heap := h', toks := tk' } := by
  subst hv
  exact hret _ _ F fun p hp => N p (hs p hp)
end Mine
namespace Mine
open PySem PySem.W PyProof.Rows
end Mine

end
section
namespace Mine
theorem log10_46 : Lg (23025850929940456840179914546843642076011014886 / 10000000000000000000000000000000000000000000000) 10 ∧ Ug (23025850929940456840179914546843642076011014887 / 10000000000000000000000000000000000000000000000) 10 := by
  constructor
  · have a := at_lo (z := 1 / 9) (by grind) (by grind) 26
    have b := at_lo (z := 3 / 253) (by grind) (by grind) 13
    exact (Lg.add (Lg.pow a 10) (Lg.pow b 3)).mono (by decide +kernel) (by decide +kernel)
  · have a := at_hi (z := 1 / 9) (by grind) (by grind) 26
    have b := at_hi (z := 3 / 253) (by grind) (by grind) 13
    exact (Ug.add (by decide +kernel) (Ug.pow (by decide +kernel) a 10) (Ug.pow (by decide +kernel) b 3)).mono (by decide +kernel) (by decide +kernel)
theorem l10_lo0 : ∀ q : Fin 47, ((l10 q : Int) : Rat) / 10 ^ (q : Nat) ≤ 23025850929940456840179914546843642076011014886 / 10000000000000000000000000000000000000000000000 := by decide +kernel
theorem l10_hi0 : ∀ q : Fin 47, (23025850929940456840179914546843642076011014887 / 10000000000000000000000000000000000000000000000 : Rat) ≤ (((l10 q : Int) : Rat) + 1) / 10 ^ (q : Nat) := by decide +kernel
/-- the digits of the memo against log 10 -/
theorem l10_lg {q : Nat} (h : q ≤ 46) : Lg (((l10 q : Int) : Rat) / 10 ^ q) 10 := log10_46.1.mono (l10_lo0 ⟨q, by omega⟩) Rat.le_refl
theorem l10_ug {q : Nat} (h : q ≤ 46) : Ug ((((l10 q : Int) : Rat) + 1) / 10 ^ q) 10 := log10_46.2.mono (l10_hi0 ⟨q, by omega⟩) Rat.le_refl
end Mine

end
section
namespace Mine
theorem nd_lo {c : Int} (hc : 1 ≤ c) : (10 : Int) ^ (nd c - 1) ≤ c ∧ c < 10 ^ nd c := by
  have h1 := nd_pos c (by omega)
  refine ⟨?_, (nd_le (by omega) h1).mp (Nat.le_refl _)⟩
  rcases Nat.eq_or_lt_of_le h1 with h | h
  · rw [← h]; simpa using hc
  · have := mt (nd_le (x := c) (k := nd c - 1) (by omega) (by omega)).mpr (by omega)
    omega
theorem cast_ten (n : Nat) : (((10 : Int) ^ n : Int) : Rat) = (10 : Rat) ^ n := by rw [Rat.intCast_pow]; rfl
theorem tenq_pos (n : Nat) : (0 : Rat) < 10 ^ n := Rat.pow_pos (by decide)
theorem ten_add (a b : Nat) : (10 : Rat) ^ (a + b) = 10 ^ a * 10 ^ b := rpow_add 10 a b
/-- a factor near one -/
theorem lg_near {q t e : Rat} (hq : 0 < q) (ht : 0 < t) (he : 0 ≤ e) (h1 : q ≤ t * (1 + e)) {r : Rat} (h : Lg r q) : Lg (r - e) t := by
  have b := (Ug.basic (q := 1 + e) (by grind)).inv (by grind)
  have k := Lg.add h b
  have hi : 0 < (1 + e)⁻¹ := Rat.inv_pos.mpr (by grind)
  refine k.mono (by grind) ?_
  have := Rat.mul_le_mul_of_nonneg_right h1 (Rat.le_of_lt hi)
  have e2 : t * (1 + e) * (1 + e)⁻¹ = t := by
    have : 1 + e ≠ 0 := by grind
    grind
  grind
theorem ug_near {q t e : Rat} (hq : 0 < q) (ht : 0 < t) (he : 0 ≤ e) (h1 : t ≤ q * (1 + e)) {r : Rat} (h : Ug r q) : Ug (r + e) t := by
  have b := Ug.basic (q := 1 + e) (by grind)
  have k := Ug.add (by grind) h b
  exact k.mono (by grind) h1
/-- the power of ten, f from 0 on -/
theorem dl_ten {n f : Nat} (hx : n + (nd (f : Int) - 1) ≤ 46) :
    Lg (((dlT (f : Int) n : Int) - 1 / 2) / 10 ^ n) (10 ^ f) ∧ Ug (((dlT (f : Int) n : Int) + 21 / 2) / 10 ^ n) (10 ^ f) := by
  have hm0 := tenq_pos n
  rcases Nat.eq_zero_or_pos f with h | h
  · subst h
    rw [dlT, if_pos (by rfl), Rat.pow_zero]
    refine ⟨Lg.zero.mono (rdiv_le hm0 ?_) Rat.le_refl, Ug.zero.mono (le_rdiv hm0 ?_) Rat.le_refl⟩ <;> simp <;> grind
  · rw [dlT, if_neg (by omega), show (((f : Int).natAbs : Nat) : Int) = (f : Int) by omega]
    obtain ⟨f1, f2⟩ := nd_lo (c := (f : Int)) (by omega)
    have hnd := nd_pos (f : Int) (by omega)
    generalize hex : nd (f : Int) - 1 = ex at *
    have f3 : (f : Int) < 10 * 10 ^ ex := by
      rw [show nd (f : Int) = ex + 1 by omega, Int.pow_succ] at f2; omega
    have hpx : (0 : Int) < 10 ^ ex := Int.pow_pos (by decide)
    have d := divN_rat ((f : Int) * l10 (n + ex)) (b := 10 ^ ex) hpx
    rw [cast_ten, Rat.intCast_mul, Rat.intCast_natCast] at d
    have a := Lg.pow (l10_lg hx) f
    have b := Ug.pow (by grind) (l10_ug hx) f
    have hxq := tenq_pos ex
    have f3q : (f : Rat) ≤ 10 * 10 ^ ex := by
      have := Rat.intCast_le_intCast.mpr (Int.le_of_lt f3)
      rw [Rat.intCast_natCast, Rat.intCast_mul, cast_ten] at this
      exact this
    rw [ten_add] at a b
    generalize ((divN ((f : Int) * l10 (n + ex)) (10 ^ ex) : Int) : Rat) = T at *
    generalize ((l10 (n + ex) : Int) : Rat) = l at *
    generalize (f : Rat) = F at *
    generalize (10 : Rat) ^ ex = P at *
    generalize (10 : Rat) ^ n = m at *
    have hP0 : P ≠ 0 := by grind
    have hm1 : m ≠ 0 := by grind
    have e1 : F * (l / (m * P)) = F * l / P / m := by grind
    have e2 : F * ((l + 1) / (m * P)) = (F * l / P + F / P) / m := by grind
    have e3 : F / P ≤ 10 := rdiv_le hxq f3q
    rw [e1] at a
    rw [e2] at b
    constructor
    · refine a.mono (rdiv_le hm0 ?_) Rat.le_refl
      rw [fld3 hm0]; grind
    · refine b.mono (rdiv_le hm0 ?_) Rat.le_refl
      rw [fld3 hm0]; grind
end Mine

end
section
namespace Mine
theorem l10_lo {q : Nat} (h : q ≤ 46) (h3 : 3 ≤ q) : 2302 * 10 ^ q ≤ 1000 * l10 q := by
  rcases l10_pos0 ⟨q, by omega⟩ with h | h
  · have := h.2.1
    simp only at this
    omega
  · have := h.1
    simp only at this
    omega
section
variable {size G : Int} {P s n ex : Nat} {B g b L C : Rat}
end
end Mine

end
section
namespace Mine
theorem ten_k' (k : Nat) : (0 : Int) < 10 ^ k := Int.pow_pos (by decide)
end Mine
namespace Mine
end Mine

end
section
open PySem PySem.W PyProof.Rows
namespace Mine
theorem dlF_up {c e : Int} {f : Nat} (hf : e + nd c - 1 = (f : Int)) : dlF c e = (f : Int) := by
  unfold dlF
  rw [if_pos (by simp; omega)]; omega
theorem nd_small {x : Int} {k : Nat} (h0 : 0 ≤ x) (hk : 0 < k) (h : x < 10 ^ k) : nd x ≤ k := (nd_le h0 hk).mpr h
theorem nd_mono {x y : Int} (h0 : 1 ≤ x) (h : x ≤ y) : nd x ≤ nd y := nd_small (by omega) (nd_pos y (by omega)) (Int.lt_of_le_of_lt h (nd_lo (by omega)).2)
/-! the four calls of _dlog -/
section
variable {ds : List Dat} {p a b : Int}
end
/-! what is told -/
end Mine

end
section
open PySem PySem.W PyProof.Rows
namespace Mine
/-- c * 10^e -/
def valQ (c e : Int) : Rat := if 0 ≤ e then (c : Rat) * 10 ^ e.toNat else (c : Rat) / 10 ^ (-e).toNat
theorem pow_1000 {n : Nat} (hn : 3 ≤ n) : (1000 : Int) ≤ 10 ^ n := by
  obtain ⟨k, rfl⟩ : ∃ k, n = 3 + k := ⟨n - 3, by omega⟩
  rw [Int.pow_add]
  have : (0 : Int) < 10 ^ k := Int.pow_pos (by decide)
  have : (10 : Int) ^ 3 = 1000 := by decide
  omega
/-- the power of ten, f below 0 -/
theorem dl_tenD {n g : Nat} (hg : 0 < g) (hx : n + (nd (g : Int) - 1) ≤ 46) :
    Lg (((dlT (-(g : Int)) n : Int) - 21 / 2) / 10 ^ n) ((10 : Rat) ^ g)⁻¹ ∧ Ug (((dlT (-(g : Int)) n : Int) + 1 / 2) / 10 ^ n) ((10 : Rat) ^ g)⁻¹ := by
  have hm0 := tenq_pos n
  have hgp := tenq_pos g
  rw [dlT, if_neg (by omega), show (((-(g : Int)).natAbs : Nat) : Int) = (g : Int) by omega]
  obtain ⟨f1, f2⟩ := nd_lo (c := (g : Int)) (by omega)
  have hnd := nd_pos (g : Int) (by omega)
  generalize hex : nd (g : Int) - 1 = ex at *
  have f3 : (g : Int) < 10 * 10 ^ ex := by
    rw [show nd (g : Int) = ex + 1 by omega, Int.pow_succ] at f2; omega
  have hpx : (0 : Int) < 10 ^ ex := Int.pow_pos (by decide)
  have d := divN_rat (-(g : Int) * l10 (n + ex)) (b := 10 ^ ex) hpx
  rw [cast_ten, Rat.intCast_mul, Rat.intCast_neg, Rat.intCast_natCast] at d
  have a := (Lg.pow (l10_lg hx) g).inv hgp
  have b := (Ug.pow (by grind) (l10_ug hx) g).inv hgp
  have hxq := tenq_pos ex
  have f3q : (g : Rat) ≤ 10 * 10 ^ ex := by
    have := Rat.intCast_le_intCast.mpr (Int.le_of_lt f3)
    rw [Rat.intCast_natCast, Rat.intCast_mul, cast_ten] at this
    exact this
  rw [ten_add] at a b
  generalize ((divN (-(g : Int) * l10 (n + ex)) (10 ^ ex) : Int) : Rat) = T at *
  generalize ((l10 (n + ex) : Int) : Rat) = l at *
  generalize (g : Rat) = F at *
  generalize (10 : Rat) ^ ex = P at *
  generalize (10 : Rat) ^ n = m at *
  have hP0 : P ≠ 0 := by grind
  have hm1 : m ≠ 0 := by grind
  have e1 : -(F * (l / (m * P))) = (-F * l / P) / m := by grind
  have e2 : -(F * ((l + 1) / (m * P))) = (-F * l / P - F / P) / m := by grind
  have e3 : F / P ≤ 10 := rdiv_le hxq f3q
  rw [e1] at a
  rw [e2] at b
  constructor
  · refine b.mono (rdiv_le hm0 ?_) Rat.le_refl
    rw [fld3 hm0]; grind
  · refine a.mono (rdiv_le hm0 ?_) Rat.le_refl
    rw [fld3 hm0]; grind
theorem dlF_dn {c e : Int} {g : Nat} (hg : e + nd c = -(g : Int)) : dlF c e = -(g : Int) := by
  unfold dlF
  rw [if_neg (by simp; omega)]; omega
end Mine

end
section
namespace Mine
/-- 10^f for an int f -/
def tenZ (f : Int) : Rat := if 0 ≤ f then 10 ^ f.toNat else ((10 : Rat) ^ (-f).toNat)⁻¹
theorem tenZ_pos (f : Int) : 0 < tenZ f := by
  unfold tenZ
  split
  · exact tenq_pos _
  · exact Rat.inv_pos.mpr (tenq_pos _)
theorem tenZ_nat (n : Nat) : tenZ (n : Int) = 10 ^ n := by
  unfold tenZ
  rw [if_pos (by omega)]; rfl
theorem tenZ_sub (a b : Nat) : tenZ ((a : Int) - b) = 10 ^ a / 10 ^ b := by
  have ha := tenq_pos a
  have hb := tenq_pos b
  unfold tenZ
  split
  · obtain ⟨k, rfl⟩ : ∃ k, a = b + k := ⟨a - b, by omega⟩
    rw [show (((b + k : Nat) : Int) - (b : Int)).toNat = k by omega, ten_add]
    have : (10 : Rat) ^ b ≠ 0 := by grind
    grind
  · obtain ⟨k, rfl⟩ : ∃ k, b = a + k := ⟨b - a, by omega⟩
    rw [show (-((a : Int) - ((a + k : Nat) : Int))).toNat = k by omega, ten_add]
    have hk := tenq_pos k
    have : (10 : Rat) ^ a ≠ 0 := by grind
    have : (10 : Rat) ^ k ≠ 0 := by grind
    grind
theorem tenZ_add (f g : Int) : tenZ (f + g) = tenZ f * tenZ g := by
  obtain ⟨a, b, rfl⟩ : ∃ a b : Nat, f = (a : Int) - b := ⟨f.toNat, (-f).toNat, by omega⟩
  obtain ⟨c, d, rfl⟩ : ∃ c d : Nat, g = (c : Int) - d := ⟨g.toNat, (-g).toNat, by omega⟩
  rw [show ((a : Int) - b) + ((c : Int) - d) = ((a + c : Nat) : Int) - ((b + d : Nat) : Int) by omega, tenZ_sub, tenZ_sub, tenZ_sub, ten_add, ten_add]
  have hb := tenq_pos b
  have hd := tenq_pos d
  have : (10 : Rat) ^ b ≠ 0 := by grind
  have : (10 : Rat) ^ d ≠ 0 := by grind
  grind
theorem valQ_ten (c e : Int) : valQ c e = c * tenZ e := by
  unfold valQ tenZ
  split
  · rfl
  · rw [Rat.div_def]
/-- the power of ten against the digits -/
theorem tenZ_log {k : Int} {L q w : Rat} (hq : 0 < q) (hL : 0 ≤ L) (hw1 : (k : Rat) ≤ w) (hw2 : -(k : Rat) ≤ w) (ll : Lg (L / q) 10) (lu : Ug ((L + 1) / q) 10) :
    Lg ((k * L - w) / q) (tenZ k) ∧ Ug ((k * L + w) / q) (tenZ k) := by
  rcases Int.lt_or_le k 0 with h | h
  · obtain ⟨g, hg⟩ : ∃ g : Nat, k = -(g : Int) := ⟨(-k).toNat, by omega⟩
    have hgq : (k : Rat) = -(g : Rat) := by rw [hg, Rat.intCast_neg, Rat.intCast_natCast]
    have hp := tenq_pos g
    have a := (Lg.pow ll g).inv hp
    have b := (Ug.pow (by grind) lu g).inv hp
    have e : tenZ k = ((10 : Rat) ^ g)⁻¹ := by
      unfold tenZ
      rw [if_neg (by omega), show (-k).toNat = g by omega]
    rw [e, hgq]
    rw [hgq] at hw1 hw2
    constructor
    · refine b.mono (rdiv_le hq ?_) Rat.le_refl
      have : -((g : Rat) * ((L + 1) / q)) * q = -(g * (L + 1)) := by
        have : q ≠ 0 := by grind
        grind
      rw [this]; grind
    · refine a.mono (le_rdiv hq ?_) Rat.le_refl
      have : -((g : Rat) * (L / q)) * q = -(g * L) := by
        have : q ≠ 0 := by grind
        grind
      rw [this]; grind
  · obtain ⟨g, hg⟩ : ∃ g : Nat, k = (g : Int) := ⟨k.toNat, by omega⟩
    have hgq : (k : Rat) = (g : Rat) := by rw [hg, Rat.intCast_natCast]
    have a := Lg.pow ll g
    have b := Ug.pow (by grind) lu g
    rw [hg, tenZ_nat, Rat.intCast_natCast]
    rw [hgq] at hw1 hw2
    constructor
    · refine a.mono (rdiv_le hq ?_) Rat.le_refl
      have : (g : Rat) * (L / q) * q = g * L := by
        have : q ≠ 0 := by grind
        grind
      rw [this]; grind
    · refine b.mono (le_rdiv hq ?_) Rat.le_refl
      have : (g : Rat) * ((L + 1) / q) * q = g * (L + 1) := by
        have : q ≠ 0 := by grind
        grind
      rw [this]; grind
end Mine

end
section
namespace Mine
open PySem
theorem nd_neg {x : Int} (h : 1 ≤ x) : nd x + 1 ≤ nd (-x) := by
  obtain ⟨m, rfl⟩ : ∃ m : Nat, x = (m + 1 : Nat) := ⟨(x - 1).toNat, by omega⟩
  unfold nd
  rw [PySem.ofString_length, PySem.ofString_length]
  have e1 : (toString (((m + 1 : Nat) : Int))) = Nat.repr (m + 1) := rfl
  have e2 : (toString (-(((m + 1 : Nat) : Int)))) = "-" ++ Nat.repr (m + 1) := rfl
  rw [e1, e2, String.length_append]
  have : "-".length = 1 := by decide
  omega
theorem abs_nd {x : Int} (h : x ≠ 0) : (x.natAbs : Int) < 10 ^ nd x := by
  rcases Int.lt_or_le x 0 with g | g
  · have a := nd_neg (x := -x) (by omega)
    rw [Int.neg_neg] at a
    have b := (nd_lo (c := -x) (by omega)).2
    obtain ⟨j, hj⟩ : ∃ j, nd x = nd (-x) + j := ⟨nd x - nd (-x), by omega⟩
    rw [hj, Int.pow_add]
    have p1 := ten_k' (nd (-x))
    have p2 := ten_k' j
    have := Int.mul_le_mul_of_nonneg_left (show (1 : Int) ≤ 10 ^ j by omega) (Int.le_of_lt p1)
    omega
  · have b := (nd_lo (c := x) (by omega)).2
    omega
theorem ten_ge1 (j : Nat) : (1 : Rat) ≤ 10 ^ j := by
  have := Rat.intCast_le_intCast.mpr (show (1 : Int) ≤ 10 ^ j by have := ten_k' j; omega)
  rwa [cast_ten] at this
end Mine

end
section
open PySem PySem.W PyProof.Rows
namespace Mine
theorem dlF_b {a b : Int} (h1 : 1 ≤ a) (h2 : a ≤ 10 ^ 28) (hb1 : -1000000000 ≤ b) (hb2 : b ≤ 1000000000) : nd ((dlF a b).natAbs : Int) - 1 ≤ 9 ∧ nd a ≤ 29 := by
  have hn : nd a ≤ 29 := nd_small (by omega) (by decide) (Int.lt_of_le_of_lt h2 (by decide))
  refine ⟨?_, hn⟩
  have hF : -1000000100 ≤ dlF a b ∧ dlF a b ≤ 1000000100 := by
    unfold dlF
    split <;> omega
  have := nd_small (x := ((dlF a b).natAbs : Int)) (k := 10) (by omega) (by decide) (Int.lt_of_lt_of_le (show ((dlF a b).natAbs : Int) < 10000000000 by omega) (by decide))
  omega
end Mine

end
section
open PySem PySem.W PyProof.Rows
namespace Mine
theorem nd_neg_eq {x : Int} (h : 1 ≤ x) : nd (-x) = nd x + 1 := by
  obtain ⟨m, rfl⟩ : ∃ m : Nat, x = (m + 1 : Nat) := ⟨(x - 1).toNat, by omega⟩
  unfold nd
  rw [PySem.ofString_length, PySem.ofString_length]
  have e1 : (toString (((m + 1 : Nat) : Int))) = Nat.repr (m + 1) := rfl
  have e2 : (toString (-(((m + 1 : Nat) : Int)))) = "-" ++ Nat.repr (m + 1) := rfl
  rw [e1, e2, String.length_append]
  have : "-".length = 1 := by decide
  omega
theorem nd_abs_le {x : Int} {k : Nat} (hk : 0 < k) (h : (x.natAbs : Int) < 10 ^ k) : nd x ≤ k + 1 := by
  rcases Int.lt_or_le x 0 with g | g
  · have e := nd_neg_eq (x := -x) (by omega)
    rw [Int.neg_neg] at e
    have := nd_small (x := -x) (k := k) (by omega) hk (by omega)
    omega
  · have := nd_small (x := x) (k := k) g hk (by omega)
    omega
end Mine

end
section
namespace Mine
open PySem
theorem dx_lo {N X q x E e z r L C w : Rat} {quot Z : Rat} (hN : 1000 ≤ N) (hX : 1 ≤ X) (hq : q = N * X)
    (he : e = 223167 / 5000) (hE1 : N ≤ E) (hE2 : E ≤ 1035 / 100 * N) (hC : C = quot * L + r) (hCG : z < (C + 1) / q) (hw : w ≤ 5 * X) (hx : -(1 / 2) ≤ x - r / X)
    (el : Lg (x / N) ((E + e) / N)) (zl : Lg ((quot * L - w) / q) Z) : Lg z ((E + 120) / N * Z) := by
  subst he
  have hN0 : 0 < N := by grind
  have hX0 : 0 < X := by grind
  have hEe : 0 < E + 223167 / 5000 := by grind
  have hE3 : 0 < E + 120 := by grind
  have b1 := Lg.basic (t := (E + 223167 / 5000) / (E + 120)) (q := (E + 120) / (E + 223167 / 5000)) (rdiv_pos hEe hE3) (by
    rw [rdiv_mul hEe]
    have : (E + 120) / (E + 120) = 1 := by
      have : E + 120 ≠ 0 := by grind
      grind
    grind)
  have l1 := Lg.add el b1
  have e1 : (E + 223167 / 5000) / N * ((E + 120) / (E + 223167 / 5000)) = (E + 120) / N := by
    have a1 : N ≠ 0 := by grind
    have a2 : E + 223167 / 5000 ≠ 0 := by grind
    grind
  rw [e1] at l1
  refine (Lg.add l1 zl).mono ?_ Rat.le_refl
  have k1 : (quot * L + r + 1) / q - (quot * L - w) / q = (r / X + 1 / X + w / X) / N := by
    rw [hq]
    have a1 : N ≠ 0 := by grind
    have a2 : X ≠ 0 := by grind
    grind
  have k2 : w / X ≤ 5 := rdiv_le hX0 hw
  have k2' : 1 / X ≤ 1 := rdiv_le hX0 (by grind)
  have k4 : 7 / N ≤ 1 - (E + 223167 / 5000) / (E + 120) := by
    have e5 : 1 - (E + 223167 / 5000) / (E + 120) = (120 - 223167 / 5000) / (E + 120) := by
      have : E + 120 ≠ 0 := by grind
      grind
    rw [e5]
    refine rdiv_le hN0 ?_
    have e6 : (120 - 223167 / 5000) / (E + 120) * N = (120 - 223167 / 5000) * N / (E + 120) := by grind
    rw [e6]
    exact le_rdiv hE3 (by clear el zl l1 b1; grind)
  have k5 : (r / X + 1 / X + w / X) / N ≤ (x + 13 / 2) / N := by
    refine rdiv_le hN0 ?_
    rw [fld3 hN0]
    generalize r / X = p at *
    generalize w / X = p' at *
    generalize 1 / X = p'' at *
    grind
  subst hC
  have e6 : (x + 13 / 2) / N = x / N + 13 / 2 / N := by grind
  have e7 : 7 / N = 13 / 2 / N + 50 / 100 / N := by grind
  have p7 : 0 < 50 / 100 / N := rdiv_pos (by grind) hN0
  grind
theorem dx_hi {N X q x E e z r L C w : Rat} {quot Z : Rat} (hN : 1000 ≤ N) (hX : 1 ≤ X) (hq : q = N * X) (hZ : 0 < Z)
    (he : e = 223167 / 5000) (hE1 : N ≤ E) (hE2 : E ≤ 1035 / 100 * N) (hC : C = quot * L + r) (hCG : C / q ≤ z) (hw : w ≤ 5 * X) (hx : x - r / X ≤ 1 / 2)
    (eu : Ug (x / N) ((E - e) / N)) (zu : Ug ((quot * L + w) / q) Z) : Ug z ((E - 120) / N * Z) := by
  subst he
  have hN0 : 0 < N := by grind
  have hX0 : 0 < X := by grind
  have hEe : 0 < E - 223167 / 5000 := by grind
  have hwE : 0 < 1 - (120 - 223167 / 5000) / (E - 223167 / 5000) := by
    have : (120 - 223167 / 5000) / (E - 223167 / 5000) < 1 := by
      rcases rlt_or_le ((120 - 223167 / 5000) / (E - 223167 / 5000)) 1 with g | g
      · exact g
      · have := Rat.mul_le_mul_of_nonneg_right g (Rat.le_of_lt hEe)
        rw [fld3 hEe] at this
        grind
    grind
  have u1 := Ug.add hwE eu (Ug.basic hwE)
  have e1 : (E - 223167 / 5000) / N * (1 - (120 - 223167 / 5000) / (E - 223167 / 5000)) = (E - 120) / N := by
    have a1 : N ≠ 0 := by grind
    have a2 : E - 223167 / 5000 ≠ 0 := by grind
    grind
  rw [e1] at u1
  refine (Ug.add hZ u1 zu).mono ?_ Rat.le_refl
  have k1 : (quot * L + r) / q - (quot * L + w) / q = (r / X - w / X) / N := by
    rw [hq]
    have a1 : N ≠ 0 := by grind
    have a2 : X ≠ 0 := by grind
    grind
  have k2 : w / X ≤ 5 := rdiv_le hX0 hw
  have k4 : 7 / N ≤ (120 - 223167 / 5000) / (E - 223167 / 5000) := by
    refine rdiv_le hN0 ?_
    have e5 : (120 - 223167 / 5000) / (E - 223167 / 5000) * N = (120 - 223167 / 5000) * N / (E - 223167 / 5000) := by grind
    rw [e5]
    exact le_rdiv hEe (by clear eu zu u1; grind)
  have k5 : (x - 11 / 2) / N ≤ (r / X - w / X) / N := by
    refine rdiv_le hN0 ?_
    rw [fld3 hN0]
    generalize r / X = p at *
    generalize w / X = p' at *
    grind
  subst hC
  have e6 : (x - 11 / 2) / N = x / N - 11 / 2 / N := by grind
  have e7 : 7 / N = 11 / 2 / N + 3 / 2 / N := by grind
  have p7 : 0 < 3 / 2 / N := rdiv_pos (by grind) hN0
  grind
theorem tenZ_le {f g : Int} (h : f ≤ g) : tenZ f ≤ tenZ g := by
  obtain ⟨j, rfl⟩ : ∃ j : Nat, g = f + j := ⟨(g - f).toNat, by omega⟩
  rw [tenZ_add, tenZ_nat]
  have := Rat.mul_le_mul_of_nonneg_left (ten_ge1 j) (Rat.le_of_lt (tenZ_pos f))
  grind
theorem dxC_gen {n : Nat} {c e : Int} : ((dxC n c e : Int) : Rat) ≤ (c : Rat) * tenZ e * 10 ^ (n + dxE c e) ∧ (c : Rat) * tenZ e * 10 ^ (n + dxE c e) < ((dxC n c e : Int) : Rat) + 1 := by
  have e1 : (c : Rat) * tenZ e * 10 ^ (n + dxE c e) = c * tenZ (e + ((n + dxE c e : Nat) : Int)) := by
    rw [tenZ_add, tenZ_nat]; grind
  rw [e1]
  unfold dxC
  generalize e + ((n + dxE c e : Nat) : Int) = g
  split
  · rename_i h
    have : tenZ g = 10 ^ g.toNat := by unfold tenZ; rw [if_pos h]
    rw [this, Rat.intCast_mul, cast_ten]
    exact ⟨Rat.le_refl, by grind⟩
  · rename_i h
    have : tenZ g = (10 ^ (-g).toNat)⁻¹ := by unfold tenZ; rw [if_neg h]
    rw [this]
    generalize (-g).toNat = k
    have hk := ten_k' k
    have hkq := tenq_pos k
    have a1 := Int.mul_ediv_add_emod c (10 ^ k)
    have a2 := Int.emod_nonneg c (b := 10 ^ k) (by omega)
    have a3 := Int.emod_lt_of_pos c hk
    generalize c / 10 ^ k = y at *
    have b1 := Rat.intCast_le_intCast.mpr (show 10 ^ k * y ≤ c by omega)
    have b2 := Rat.intCast_lt_intCast.mpr (show c < 10 ^ k * y + 10 ^ k by omega)
    rw [Rat.intCast_mul, cast_ten] at b1
    rw [Rat.intCast_add, Rat.intCast_mul, cast_ten] at b2
    have e2 : (c : Rat) * (10 ^ k)⁻¹ = c / 10 ^ k := by grind
    rw [e2]
    constructor
    · exact le_rdiv hkq (by grind)
    · rcases rlt_or_le ((c : Rat) / 10 ^ k) (y + 1) with g | g
      · exact g
      · exfalso
        have := Rat.mul_le_mul_of_nonneg_right g (Rat.le_of_lt hkq)
        rw [fld3 hkq] at this
        grind
/-- what _dexp gives back -/
theorem dx_core {c e d f : Int} {p : Nat} (hp : 1 ≤ p) (hq : p + 2 + dxE c e ≤ 46) (h : IsDexp (p + 2) c e d f) :
    10 ^ (p - 1) ≤ d ∧ d ≤ 10 ^ p ∧ Lg ((c : Rat) * tenZ e) (((d : Rat) + 62 / 100) * tenZ f) ∧ Ug ((c : Rat) * tenZ e) (((d : Rat) - 62 / 100) * tenZ f) := by
  obtain ⟨E, hE, hd, hf⟩ := h
  have hC := dxC_gen (n := p + 2) (c := c) (e := e)
  have hrok := dxr_ok (n := p + 2) (c := c) (e := e) (by omega) hq
  have hlp := l10_pos _ hq
  have hll := l10_lg hq
  have hlu := l10_ug hq
  have hl1 := l10_lo hq (by omega)
  have hxd : dxE c e = (e + nd c - 1).toNat := rfl
  have hR : dxR (p + 2) c e = divN (dxC (p + 2) c e % l10 (p + 2 + dxE c e)) (10 ^ dxE c e) := rfl
  rw [hR] at hE hrok
  have hdiv := Int.mul_ediv_add_emod (dxC (p + 2) c e) (l10 (p + 2 + dxE c e))
  have r0 := Int.emod_nonneg (dxC (p + 2) c e) (b := l10 (p + 2 + dxE c e)) (by omega)
  have r1 := Int.emod_lt_of_pos (dxC (p + 2) c e) hlp
  have hMk := pow_1000 (n := p + 2) (by omega)
  generalize hexd : dxE c e = ex at *
  generalize hCC : dxC (p + 2) c e = C at *
  generalize hLL : l10 (p + 2 + ex) = L at *
  generalize hqq : C / L = quot at *
  generalize hrr : C % L = rem at *
  have hpx : (0 : Int) < 10 ^ ex := Int.pow_pos (by decide)
  have dr := divN_rat rem (b := 10 ^ ex) hpx
  rw [cast_ten] at dr
  obtain ⟨hE1, hE2, el, eu⟩ := ie_final (by omega) rfl hMk hrok.1 hrok.2 hE
  rw [cast_ten] at hE2 el eu
  have hqq0 := tenq_pos (p + 2 + ex)
  have hxq := tenq_pos ex
  have hnq := tenq_pos (p + 2)
  have eqx : (10 : Rat) ^ (p + 2 + ex) = 10 ^ (p + 2) * 10 ^ ex := ten_add _ _
  have hNk : (1000 : Rat) ≤ 10 ^ (p + 2) := by
    have := cast_k hMk
    rwa [cast_ten] at this
  have hX1 := ten_ge1 ex
  have hLq : (0 : Rat) < (L : Int) := by exact_mod_cast hlp
  have hdq : ((C : Int) : Rat) = (quot : Rat) * L + rem := by
    have : C = quot * L + rem := by rw [Int.mul_comm quot L]; omega
    rw [this, Rat.intCast_add, Rat.intCast_mul]
  have rq : ((rem : Int) : Rat) ≤ L := by exact_mod_cast (show rem ≤ L by omega)
  have hGb : (c : Rat) * tenZ e ≤ 10 * 10 ^ ex ∧ -(10 * 10 ^ ex) ≤ (c : Rat) * tenZ e := by
    have hte := tenZ_pos e
    have e10 : (10 : Rat) * 10 ^ ex = tenZ ((ex : Int) + 1) := by
      rw [tenZ_add, tenZ_nat, show tenZ 1 = 10 by decide +kernel]; grind
    by_cases h0 : c = 0
    · rw [h0, show (((0 : Int)) : Rat) = 0 from rfl, Rat.zero_mul]
      constructor <;> grind
    · have a := abs_nd h0
      have k1 : tenZ (nd c) * tenZ e ≤ 10 * 10 ^ ex := by
        rw [← tenZ_add, e10]; exact tenZ_le (by omega)
      rw [tenZ_nat] at k1
      have b1 := Rat.intCast_le_intCast.mpr (show c ≤ 10 ^ nd c by omega)
      have b2 := Rat.intCast_le_intCast.mpr (show -(10 ^ nd c) ≤ c by omega)
      rw [cast_ten] at b1
      rw [Rat.intCast_neg, cast_ten] at b2
      have c1 := Rat.mul_le_mul_of_nonneg_right b1 (Rat.le_of_lt hte)
      have c2 := Rat.mul_le_mul_of_nonneg_right b2 (Rat.le_of_lt hte)
      constructor <;> grind
  generalize hz : (c : Rat) * tenZ e = z at *
  have hg1 : ((C : Int) : Rat) / 10 ^ (p + 2 + ex) ≤ z := rdiv_le hqq0 hC.1
  have hg2 : z < (((C : Int) : Rat) + 1) / 10 ^ (p + 2 + ex) := by
    have h5 := hC.2
    rcases rlt_or_le z ((((C : Int) : Rat) + 1) / 10 ^ (p + 2 + ex)) with g | g
    · exact g
    · exfalso
      have := Rat.mul_le_mul_of_nonneg_right g (Rat.le_of_lt hqq0)
      rw [fld3 hqq0] at this
      grind
  have c1 : C ≤ 10 * 10 ^ ex * 10 ^ (p + 2 + ex) := by
    have := Rat.mul_le_mul_of_nonneg_right hGb.1 (Rat.le_of_lt hqq0)
    have h2 : ((C : Int) : Rat) ≤ ((10 * 10 ^ ex * 10 ^ (p + 2 + ex) : Int) : Rat) := by
      rw [Rat.intCast_mul, Rat.intCast_mul, cast_ten, cast_ten]; exact Rat.le_trans hC.1 this
    exact Rat.intCast_le_intCast.mp h2
  have c2 : -(10 * 10 ^ ex * 10 ^ (p + 2 + ex)) ≤ C + 1 := by
    have := Rat.mul_le_mul_of_nonneg_right hGb.2 (Rat.le_of_lt hqq0)
    have h2 : ((-(10 * 10 ^ ex * 10 ^ (p + 2 + ex)) : Int) : Rat) ≤ ((C + 1 : Int) : Rat) := by
      rw [Rat.intCast_neg, Rat.intCast_mul, Rat.intCast_mul, cast_ten, cast_ten, Rat.intCast_add, show (((10 : Int)) : Rat) = 10 from rfl, show (((1 : Int)) : Rat) = 1 from rfl]
      have := hC.2
      grind
    exact Rat.intCast_le_intCast.mp h2
  have hpq := ten_k' (p + 2 + ex)
  have k5 : 10 * 10 ^ ex * 10 ^ (p + 2 + ex) + 1 ≤ 5 * 10 ^ ex * L := by
    have a := Int.mul_le_mul_of_nonneg_left hl1 (show (0 : Int) ≤ 10 ^ ex by omega)
    have b := Int.mul_le_mul_of_nonneg_left (show (1 : Int) ≤ 10 ^ (p + 2 + ex) by omega) (show (0 : Int) ≤ 10 ^ ex by omega)
    have e1 : 10 ^ ex * (2302 * 10 ^ (p + 2 + ex)) = 2302 * ((10 : Int) ^ ex * 10 ^ (p + 2 + ex)) := by grind
    have e2 : 10 ^ ex * (1000 * L) = 1000 * (10 ^ ex * L) := by grind
    have e3 : 10 * 10 ^ ex * 10 ^ (p + 2 + ex) = 10 * ((10 : Int) ^ ex * 10 ^ (p + 2 + ex)) := by grind
    have e4 : 5 * 10 ^ ex * L = 5 * (10 ^ ex * L) := by grind
    omega
  have hq1 : quot ≤ 5 * 10 ^ ex := by
    rw [← hqq]
    exact Int.le_of_lt_add_one (Int.ediv_lt_of_lt_mul hlp (by
      have : (5 * 10 ^ ex + 1) * L = 5 * 10 ^ ex * L + L := by grind
      omega))
  have hq2 : -(5 * 10 ^ ex) ≤ quot := by
    rw [← hqq]
    exact (Int.le_ediv_iff_mul_le hlp).mpr (by
      have : -(5 * 10 ^ ex) * L = -(5 * 10 ^ ex * L) := by grind
      omega)
  have hw1 : (quot : Rat) ≤ 5 * 10 ^ ex := by
    have := Rat.intCast_le_intCast.mpr hq1
    rwa [Rat.intCast_mul, cast_ten] at this
  have hw2 : -(quot : Rat) ≤ 5 * 10 ^ ex := by
    have := Rat.intCast_le_intCast.mpr hq2
    rw [Rat.intCast_neg, Rat.intCast_mul, cast_ten, show (((5 : Int)) : Rat) = 5 from rfl] at this
    grind
  have tz := tenZ_log hqq0 (Rat.le_of_lt hLq) hw1 hw2 hll hlu
  have hZ := tenZ_pos quot
  -- E
  have hE1q : (10 : Rat) ^ (p + 2) ≤ E := by
    have := Rat.intCast_le_intCast.mpr hE1
    rwa [cast_ten] at this
  have hE3 : (E : Rat) ≤ 1035 / 100 * 10 ^ (p + 2) := by
    have z0 : zh 0 = 9343247 / 1000000 := rfl
    rw [z0] at hE2
    grind
  -- f
  have hfq : tenZ f = tenZ quot * (1000 / 10 ^ (p + 2)) := by
    have e1 : f = quot + (((3 : Nat) : Int) - ((p + 2 : Nat) : Int)) := by omega
    rw [e1, tenZ_add, tenZ_sub, show (10 : Rat) ^ 3 = 1000 by decide +kernel]
  have dE := divN_rat E (b := 1000) (by decide)
  rw [← hd, show (((1000 : Int)) : Rat) = 1000 from rfl] at dE
  have ee : eh 0 = 223167 / 5000 := rfl
  -- the range of d
  have hp1 : (10 : Int) ^ (p + 2) = 1000 * 10 ^ (p - 1) := by
    rw [show p + 2 = 3 + (p - 1) by omega, Int.pow_add]; rfl
  have hp2 : (10 : Int) ^ p = 10 * 10 ^ (p - 1) := by
    rw [← Int.pow_succ']; congr 1; omega
  have d1 : 10 ^ (p - 1) ≤ d := by
    rw [hd]
    exact le_divN (by decide) (by omega)
  have hE4 : E < 10 * 10 ^ (p + 2) + 500 := by
    rcases Int.lt_or_le E (10 * 10 ^ (p + 2) + 500) with g | g
    · exact g
    · exfalso
      have gq := Rat.intCast_le_intCast.mpr g
      rw [Rat.intCast_add, Rat.intCast_mul, cast_ten, show (((10 : Int)) : Rat) = 10 from rfl, show (((500 : Int)) : Rat) = 500 from rfl] at gq
      have b1 := Lg.basic (t := 10 ^ (p + 2) / (10 ^ (p + 2) + 45)) (q := (10 ^ (p + 2) + 45) / 10 ^ (p + 2)) (rdiv_pos hnq (by grind)) (by
        rw [rdiv_mul hnq]
        have : ((10 : Rat) ^ (p + 2) + 45) / (10 ^ (p + 2) + 45) = 1 := by
          have : (10 : Rat) ^ (p + 2) + 45 ≠ 0 := by grind
          grind
        grind)
      have l1 := (Lg.add hll b1).mono Rat.le_refl (show 10 * ((10 ^ (p + 2) + 45) / 10 ^ (p + 2)) ≤ ((E : Rat) - eh 0) / 10 ^ (p + 2) by
        rw [ee]
        refine le_rdiv hnq ?_
        have : 10 * (((10 : Rat) ^ (p + 2) + 45) / 10 ^ (p + 2)) * 10 ^ (p + 2) = 10 * (10 ^ (p + 2) + 45) := by
          have : (10 : Rat) ^ (p + 2) ≠ 0 := by grind
          grind
        rw [this]; grind)
      have c9 := l1.le eu
      have e9 : ((L : Int) : Rat) / 10 ^ (p + 2 + ex) = (L : Rat) / 10 ^ ex / 10 ^ (p + 2) := by
        rw [eqx]
        have a1 : (10 : Rat) ^ (p + 2) ≠ 0 := by grind
        have a2 : (10 : Rat) ^ ex ≠ 0 := by grind
        grind
      have x1 : ((divN rem (10 ^ ex) : Int) : Rat) ≤ (L : Rat) / 10 ^ ex + 1 / 2 := by
        have : ((rem : Int) : Rat) / 10 ^ ex ≤ (L : Rat) / 10 ^ ex := by
          refine rdiv_le hxq ?_
          rw [fld3 hxq]; exact rq
        grind
      have x2 : ((divN rem (10 ^ ex) : Int) : Rat) / 10 ^ (p + 2) ≤ (L : Rat) / 10 ^ ex / 10 ^ (p + 2) + 1 / 2 / 10 ^ (p + 2) := by
        refine rdiv_le hnq ?_
        have : ((L : Rat) / 10 ^ ex / 10 ^ (p + 2) + 1 / 2 / 10 ^ (p + 2)) * 10 ^ (p + 2) = (L : Rat) / 10 ^ ex + 1 / 2 := by
          have a1 : (10 : Rat) ^ (p + 2) ≠ 0 := by grind
          generalize (L : Rat) / 10 ^ ex = y
          grind
        rw [this]; exact x1
      have x3 : 40 / (10 : Rat) ^ (p + 2) ≤ 1 - 10 ^ (p + 2) / (10 ^ (p + 2) + 45) := by
        have e5 : 1 - (10 : Rat) ^ (p + 2) / (10 ^ (p + 2) + 45) = 45 / (10 ^ (p + 2) + 45) := by
          have : (10 : Rat) ^ (p + 2) + 45 ≠ 0 := by grind
          grind
        rw [e5]
        refine rdiv_le hnq ?_
        have e6 : 45 / ((10 : Rat) ^ (p + 2) + 45) * 10 ^ (p + 2) = 45 * 10 ^ (p + 2) / (10 ^ (p + 2) + 45) := by grind
        rw [e6]
        exact le_rdiv (by grind) (by grind)
      have x4 : 40 / (10 : Rat) ^ (p + 2) = 1 / 2 / 10 ^ (p + 2) + 79 / 2 / 10 ^ (p + 2) := by grind
      have x5 : 0 < 79 / 2 / (10 : Rat) ^ (p + 2) := rdiv_pos (by grind) hnq
      rw [e9] at c9
      generalize (L : Rat) / 10 ^ ex / 10 ^ (p + 2) = y at *
      grind
  have d2 : d ≤ 10 ^ p := by
    have b := (divN_bounds E (b := 1000) (by decide)).2
    rw [← hd] at b
    omega
  have i0 : 0 ≤ tenZ quot * (1000 / 10 ^ (p + 2)) := Rat.mul_nonneg (Rat.le_of_lt hZ) (le_rdiv hnq (by grind))
  refine ⟨d1, d2, ?_, ?_⟩
  · refine (dx_lo hNk hX1 eqx ee hE1q hE3 hdq hg2 Rat.le_refl dr.1 el tz.1).mono Rat.le_refl ?_
    rw [hfq]
    have e1 : ((E : Rat) + 120) / 10 ^ (p + 2) * tenZ quot = ((E : Rat) + 120) / 1000 * (tenZ quot * (1000 / 10 ^ (p + 2))) := by grind
    rw [e1]
    have := Rat.mul_nonneg (show (0 : Rat) ≤ (d + 62 / 100) - ((E : Rat) + 120) / 1000 by
      have : ((E : Rat) + 120) / 1000 = E / 1000 + 12 / 100 := by grind
      grind) i0
    grind
  · refine (dx_hi hNk hX1 eqx hZ ee hE1q hE3 hdq hg1 Rat.le_refl dr.2 eu tz.2).mono Rat.le_refl ?_
    rw [hfq]
    have e1 : ((E : Rat) - 120) / 10 ^ (p + 2) * tenZ quot = ((E : Rat) - 120) / 1000 * (tenZ quot * (1000 / 10 ^ (p + 2))) := by grind
    rw [e1]
    have := Rat.mul_nonneg (show (0 : Rat) ≤ ((E : Rat) - 120) / 1000 - (d - 62 / 100) by
      have : ((E : Rat) - 120) / 1000 = E / 1000 - 12 / 100 := by grind
      grind) i0
    grind
end Mine

end
section
namespace Mine
open PySem
theorem gen_hi {z β A d T Q : Rat} {k : Nat} (hk : 0 < k) (hT : 0 < T) (hd : 1 ≤ d) (hA : 62 / 100 < A) (hb : β * (d + A) < A - 62 / 100) (qu : Ug (k * (z + β)) Q) (hl : Lg z ((d + 62 / 100) * T)) : Q < ((d + A) * T) ^ k := by
  rcases rlt_or_le Q (((d + A) * T) ^ k) with g | g
  · exact g
  exfalso
  have p1 : 0 < d + 62 / 100 := by grind
  have p2 : 0 < d + A := by grind
  have b1 := Lg.basic (t := (d + 62 / 100) / (d + A)) (q := (d + A) / (d + 62 / 100)) (rdiv_pos p1 p2) (by
    rw [rdiv_mul p1]
    have : (d + A) / (d + A) = 1 := by
      have : d + A ≠ 0 := by grind
      grind
    grind)
  have l1 := Lg.add hl b1
  have e1 : (d + 62 / 100) * T * ((d + A) / (d + 62 / 100)) = (d + A) * T := by
    have : d + 62 / 100 ≠ 0 := by grind
    grind
  rw [e1] at l1
  have c := ((Lg.pow l1 k).mono Rat.le_refl g).le qu
  have hkq : (0 : Rat) < k := by exact_mod_cast hk
  have c2 := rle_of_mul (a := z + (1 - (d + 62 / 100) / (d + A))) (b := z + β) hkq (by grind)
  have e2 : 1 - (d + 62 / 100) / (d + A) = (A - 62 / 100) / (d + A) := by
    have : d + A ≠ 0 := by grind
    grind
  rw [e2] at c2
  have c3 := Rat.mul_le_mul_of_nonneg_right (show (A - 62 / 100) / (d + A) ≤ β by grind) (Rat.le_of_lt p2)
  rw [fld3 p2] at c3
  grind
theorem gen_lo {z β A d T Q : Rat} {k : Nat} (hk : 0 < k) (hT : 0 < T) (hd : A < d) (hA : 62 / 100 < A) (hb : β * (d + A) < A - 62 / 100) (hb0 : 0 ≤ β) (ql : Lg (k * (z - β)) Q) (hu : Ug z ((d - 62 / 100) * T)) : ((d - A) * T) ^ k < Q := by
  rcases rlt_or_le (((d - A) * T) ^ k) Q with g | g
  · exact g
  exfalso
  have p1 : 0 < d - 62 / 100 := by grind
  have p2 : 0 < d - A := by grind
  have hq : 0 < (d - A) / (d - 62 / 100) := rdiv_pos p2 p1
  have u1 := Ug.add hq hu (Ug.basic hq)
  have e1 : (d - 62 / 100) * T * ((d - A) / (d - 62 / 100)) = (d - A) * T := by
    have : d - 62 / 100 ≠ 0 := by grind
    grind
  rw [e1] at u1
  have c := ql.le ((Ug.pow (Rat.mul_pos p2 hT) u1 k).mono Rat.le_refl g)
  have hkq : (0 : Rat) < k := by exact_mod_cast hk
  have c2 := rle_of_mul (a := z - β) (b := z + ((d - A) / (d - 62 / 100) - 1)) hkq (by grind)
  have e2 : (d - A) / (d - 62 / 100) - 1 = -((A - 62 / 100) / (d - 62 / 100)) := by
    have : d - 62 / 100 ≠ 0 := by grind
    grind
  rw [e2] at c2
  have c3 := Rat.mul_le_mul_of_nonneg_right (show (A - 62 / 100) / (d - 62 / 100) ≤ β by grind) (Rat.le_of_lt p1)
  rw [fld3 p1] at c3
  have := Rat.mul_nonneg hb0 (show (0 : Rat) ≤ A + 62 / 100 by grind)
  grind
/-- what _dpower gives back, D being what it knows of the logarithm -/
def IsDpow (D : Int → Prop) (P : Nat) (yc c e : Int) : Prop := ∃ l d f, D l ∧ IsDexp (P + 3) (divN (l * yc) (10 ^ nd (yc.natAbs : Int))) (-((P : Int) + 1)) d f ∧ c = divN d 10 ∧ e = f + 1
end Mine

end
section
namespace Mine
open PySem
theorem rmulpow (a b : Rat) (k : Nat) : (a * b) ^ k = a ^ k * b ^ k := rmul_pow a b k
end Mine

end
section
open PySem PySem.W PyProof.Rows
namespace Mine
/-- the square root by Newton's steps -/
def sqIt (n : Nat) : Nat → Nat → Nat
  | 0, a => bif Nat.ble n (a * a + a) then a else a + 1
  | k + 1, a => sqIt n k ((a + n / a) / 2)
def sqChk (n s : Nat) : Bool := Nat.ble 1 s && (Nat.ble (s * s + 1) (n + s) && Nat.ble n (s * s + s))
/-- _ilog followed from R, y on: what the walk asks holds, and the answer lies from lo to hi -/
def ilGo (p : Nat) (M : Nat) (lo hi : Int) : Nat → Nat → Int → Bool
  | 0, _, _ => false
  | k + 1, R, y => Nat.ble R 14 && (Nat.ble y.natAbs (10 * M) && (Nat.ble 1 ((M : Int) + divN y (2 ^ R)).toNat &&
      (bif Nat.ble (M * 2 ^ R) (256 * y.natAbs) then
        sqChk (M * ((M : Int) + divN y (2 ^ R)).toNat) (sqIt (M * ((M : Int) + divN y (2 ^ R)).toNat) 6 (((M : Int) + divN y (2 ^ R)).toNat / 2 + M)) &&
        ilGo p M lo hi k (R + 1) (divN (M * y * 2) (M + (sqIt (M * ((M : Int) + divN y (2 ^ R)).toNat) 6 (((M : Int) + divN y (2 ^ R)).toNat / 2 + M) : Nat)))
       else decide (lo ≤ ilTail p M R y ∧ ilTail p M R y ≤ hi))))
theorem ilGo_all {p : Nat} {x : Int} {M : Nat} {lo hi : Int} (h : ilGo p M lo hi 15 0 (x - M) = true) {R : Nat} {y : Int} (hr : RedTo x M R y) : ∃ k, ilGo p M lo hi k R y = true := by
  induction hr with
  | zero => exact ⟨15, h⟩
  | @succ R y s hr hc hs ih =>
    obtain ⟨k, hk⟩ := ih
    cases k with
    | zero => cases hk
    | succ k =>
      unfold ilGo at hk
      have hb : Nat.ble (M * 2 ^ R) (256 * y.natAbs) = true := Nat.ble_eq.mpr (by
        have : (((M * 2 ^ R : Nat)) : Int) ≤ ((256 * y.natAbs : Nat) : Int) := by push_cast; exact hc
        exact_mod_cast this)
      rw [hb] at hk
      simp only [Bool.and_eq_true, Nat.ble_eq, cond_true] at hk
      obtain ⟨_, _, h1, h2, h3⟩ := hk
      unfold sqChk at h2
      simp only [Bool.and_eq_true, Nat.ble_eq] at h2
      have en : ((M * ((M : Int) + divN y (2 ^ R)).toNat : Nat) : Int) = M * (M + divN y (2 ^ R)) := by rw [Int.natCast_mul]; congr 1; omega
      generalize (M * ((M : Int) + divN y (2 ^ R)).toNat : Nat) = n at *
      generalize sqIt n 6 (((M : Int) + divN y (2 ^ R)).toNat / 2 + M) = t at *
      rw [← en] at hs
      have ht : ((t * t : Nat) : Int) = (t : Int) * t := Int.natCast_mul t t
      have e : s = (t : Int) := IsSq.unique hs ⟨by omega, by rw [← ht]; omega, by rw [← ht]; omega⟩
      rw [← e] at h3
      exact ⟨k, h3⟩
theorem ilGo_red {p : Nat} {x : Int} {M : Nat} {lo hi : Int} (h : ilGo p M lo hi 15 0 (x - M) = true) : RedOk x M := by
  intro R y hr
  obtain ⟨k, hk⟩ := ilGo_all h hr
  cases k with
  | zero => cases hk
  | succ k =>
    unfold ilGo at hk
    simp only [Bool.and_eq_true, Nat.ble_eq] at hk
    obtain ⟨h1, h2, h3, _⟩ := hk
    exact ⟨h1, by omega, by omega, by omega⟩
theorem ilGo_end {p : Nat} {x : Int} {M : Nat} {lo hi D : Int} (h : ilGo p M lo hi 15 0 (x - M) = true) (hD : IsIlog p x M D) : lo ≤ D ∧ D ≤ hi := by
  obtain ⟨R, y, hr, hc, rfl⟩ := hD
  obtain ⟨k, hk⟩ := ilGo_all h hr
  cases k with
  | zero => cases hk
  | succ k =>
    unfold ilGo at hk
    have hb : Nat.ble (M * 2 ^ R) (256 * y.natAbs) = false := by
      cases hx : Nat.ble (M * 2 ^ R) (256 * y.natAbs) with
      | false => rfl
      | true =>
        exfalso
        have h1 := Nat.ble_eq.mp hx
        have : (((M * 2 ^ R : Nat)) : Int) ≤ ((256 * y.natAbs : Nat) : Int) := by exact_mod_cast h1
        push_cast at this
        omega
    rw [hb] at hk
    simp only [Bool.and_eq_true, cond_false, decide_eq_true_eq] at hk
    exact hk.2.2.2
/-- the greatest j up to k with a * 11^j at most b * 10^j -/
def jOf (a b : Nat) : Nat → Nat
  | 0 => 0
  | k + 1 => bif Nat.ble (a * 11 ^ (k + 1)) (b * 10 ^ (k + 1)) then k + 1 else jOf a b k
def chkU (p M x j : Nat) : Bool := Nat.ble (M * 11 ^ j) (x * 10 ^ j) && (Nat.ble (x * 10 ^ (j + 1)) (M * 11 ^ (j + 1)) && ilGo p M ((M / 10 * (j + 1) : Nat) - 25) ((M * j / 11 : Nat) + 25) 15 0 ((x : Int) - M))
def chkD (p M x j : Nat) : Bool := Nat.ble (x * 11 ^ j) (M * 10 ^ j) && (Nat.ble (M * 10 ^ (j + 1)) (x * 11 ^ (j + 1)) && ilGo p M (-((M * j / 11 : Nat) : Int) - 25) (-((M / 10 * (j + 1) : Nat) : Int) + 25) 15 0 ((x : Int) - M))
theorem tab2u0 : ∀ i : Fin 150, chkU 2 100 (100 + (i : Nat)) (jOf 100 (100 + (i : Nat)) 25) = true := by decide +kernel
theorem tab2u1 : ∀ i : Fin 150, chkU 2 100 (250 + (i : Nat)) (jOf 100 (250 + (i : Nat)) 25) = true := by decide +kernel
theorem tab2u2 : ∀ i : Fin 150, chkU 2 100 (400 + (i : Nat)) (jOf 100 (400 + (i : Nat)) 25) = true := by decide +kernel
theorem tab2u3 : ∀ i : Fin 150, chkU 2 100 (550 + (i : Nat)) (jOf 100 (550 + (i : Nat)) 25) = true := by decide +kernel
theorem tab2u4 : ∀ i : Fin 150, chkU 2 100 (700 + (i : Nat)) (jOf 100 (700 + (i : Nat)) 25) = true := by decide +kernel
theorem tab2u5 : ∀ i : Fin 151, chkU 2 100 (850 + (i : Nat)) (jOf 100 (850 + (i : Nat)) 25) = true := by decide +kernel
theorem tab2u (x : Nat) (h1 : 100 ≤ x) (h2 : x ≤ 1000) : chkU 2 100 x (jOf 100 x 25) = true := by
  rcases Nat.lt_or_ge x 250 with g | g
  · have t := tab2u0 ⟨x - 100, by omega⟩
    simp only at t
    rwa [show 100 + (x - 100) = x by omega] at t
  rcases Nat.lt_or_ge x 400 with g | g
  · have t := tab2u1 ⟨x - 250, by omega⟩
    simp only at t
    rwa [show 250 + (x - 250) = x by omega] at t
  rcases Nat.lt_or_ge x 550 with g | g
  · have t := tab2u2 ⟨x - 400, by omega⟩
    simp only at t
    rwa [show 400 + (x - 400) = x by omega] at t
  rcases Nat.lt_or_ge x 700 with g | g
  · have t := tab2u3 ⟨x - 550, by omega⟩
    simp only at t
    rwa [show 550 + (x - 550) = x by omega] at t
  rcases Nat.lt_or_ge x 850 with g | g
  · have t := tab2u4 ⟨x - 700, by omega⟩
    simp only at t
    rwa [show 700 + (x - 700) = x by omega] at t
  rcases Nat.lt_or_ge x 1001 with g | g
  · have t := tab2u5 ⟨x - 850, by omega⟩
    simp only at t
    rwa [show 850 + (x - 850) = x by omega] at t
  · omega
theorem tab1u : ∀ i : Fin 91, chkU 1 10 (10 + (i : Nat)) (jOf 10 (10 + (i : Nat)) 25) = true := by decide +kernel
theorem tab2d : ∀ i : Fin 91, chkD 2 100 (10 + (i : Nat)) (jOf (10 + (i : Nat)) 100 25) = true := by decide +kernel
theorem tab1d : ∀ i : Fin 10, chkD 1 10 (1 + (i : Nat)) (jOf (1 + (i : Nat)) 10 25) = true := by decide +kernel
end Mine

end
section
open PySem PySem.W PyProof.Rows
namespace Mine
theorem q11p (j : Nat) : ((11 : Rat) / 10) ^ j * 10 ^ j = 11 ^ j := by
  rw [← rmulpow, show (11 : Rat) / 10 * 10 = 11 by decide +kernel]
theorem lg11 (j : Nat) : Lg ((j : Rat) / 11) (((11 : Rat) / 10) ^ j) :=
  (Lg.pow (Lg.basic (t := 10 / 11) (q := 11 / 10) (by decide +kernel) (by decide +kernel)) j).mono (by grind) Rat.le_refl
theorem ug11 (j : Nat) : Ug ((j : Rat) / 10) (((11 : Rat) / 10) ^ j) :=
  (Ug.pow (by decide +kernel) (Ug.basic (q := 11 / 10) (by decide +kernel)) j).mono (by grind) Rat.le_refl
theorem rle_mul {a b t : Rat} (ht : 0 < t) (h : a * t ≤ b * t) : a ≤ b := by
  rcases rlt_or_le b a with g | g
  · exact absurd h (by
      have := Rat.mul_lt_mul_of_pos_right g ht
      grind)
  · exact g
theorem chk_up {p M x j : Nat} {D : Int} (hM : 0 < M) (h10 : M % 10 = 0) (h : chkU p M x j = true) (hD : IsIlog p x M D) :
    Lg (((D : Rat) - 25) / M) ((x : Rat) / M) ∧ Ug (((D : Rat) + 25) / M) ((x : Rat) / M) := by
  unfold chkU at h
  simp only [Bool.and_eq_true, Nat.ble_eq] at h
  obtain ⟨h1, h2, h3⟩ := h
  obtain ⟨d1, d2⟩ := ilGo_end h3 hD
  have hMq : (0 : Rat) < M := by exact_mod_cast hM
  have a1 : (M : Rat) * 11 ^ j ≤ x * 10 ^ j := by exact_mod_cast h1
  have a2 : (x : Rat) * 10 ^ (j + 1) ≤ M * 11 ^ (j + 1) := by exact_mod_cast h2
  rw [← q11p] at a1 a2
  have b1 : ((11 : Rat) / 10) ^ j * M ≤ x := rle_mul (tenq_pos j) (by grind)
  have b2 : (x : Rat) ≤ ((11 : Rat) / 10) ^ (j + 1) * M := rle_mul (tenq_pos (j + 1)) (by grind)
  have e1 : 11 * (D - 25) ≤ ((M * j : Nat) : Int) := by omega
  have e2 : ((M * (j + 1) : Nat) : Int) ≤ 10 * (D + 25) := by
    obtain ⟨m, rfl⟩ : ∃ m, M = 10 * m := ⟨M / 10, by omega⟩
    rw [show 10 * m / 10 = m by omega] at d1
    have : ((10 * m * (j + 1) : Nat) : Int) = 10 * ((m * (j + 1) : Nat) : Int) := by rw [Nat.mul_assoc, Int.natCast_mul]; rfl
    omega
  have f1 : (11 : Rat) * (D - 25) ≤ M * j := by exact_mod_cast e1
  have f2 : (M : Rat) * (j + 1) ≤ 10 * (D + 25) := by exact_mod_cast e2
  constructor
  · refine (lg11 j).mono (rdiv_le hMq ?_) (le_rdiv hMq b1)
    grind
  · refine (ug11 (j + 1)).mono (le_rdiv hMq ?_) (rdiv_le hMq b2)
    have : (((j + 1 : Nat)) : Rat) = j + 1 := by push_cast; rfl
    rw [this]
    grind
theorem chk_dn {p M x j : Nat} {D : Int} (hM : 0 < M) (hx : 0 < x) (h10 : M % 10 = 0) (h : chkD p M x j = true) (hD : IsIlog p x M D) :
    Lg (((D : Rat) - 25) / M) ((x : Rat) / M) ∧ Ug (((D : Rat) + 25) / M) ((x : Rat) / M) := by
  unfold chkD at h
  simp only [Bool.and_eq_true, Nat.ble_eq] at h
  obtain ⟨h1, h2, h3⟩ := h
  obtain ⟨d1, d2⟩ := ilGo_end h3 hD
  have hMq : (0 : Rat) < M := by exact_mod_cast hM
  have a1 : (x : Rat) * 11 ^ j ≤ M * 10 ^ j := by exact_mod_cast h1
  have a2 : (M : Rat) * 10 ^ (j + 1) ≤ x * 11 ^ (j + 1) := by exact_mod_cast h2
  rw [← q11p] at a1 a2
  have b1 : (x : Rat) * ((11 : Rat) / 10) ^ j ≤ M := rle_mul (tenq_pos j) (by grind)
  have b2 : (M : Rat) ≤ x * ((11 : Rat) / 10) ^ (j + 1) := rle_mul (tenq_pos (j + 1)) (by grind)
  have q1 : (0 : Rat) < ((11 : Rat) / 10) ^ j := rpow_pos (by decide +kernel) j
  have q2 : (0 : Rat) < ((11 : Rat) / 10) ^ (j + 1) := rpow_pos (by decide +kernel) (j + 1)
  have e1 : -((M * j : Nat) : Int) ≤ 11 * (D + 25) := by omega
  have e2 : 10 * (D - 25) ≤ -((M * (j + 1) : Nat) : Int) := by
    obtain ⟨m, rfl⟩ : ∃ m, M = 10 * m := ⟨M / 10, by omega⟩
    rw [show 10 * m / 10 = m by omega] at d2
    have : ((10 * m * (j + 1) : Nat) : Int) = 10 * ((m * (j + 1) : Nat) : Int) := by rw [Nat.mul_assoc, Int.natCast_mul]; rfl
    omega
  have f1 : (0 : Rat) ≤ M * j + 11 * D + 275 := by exact_mod_cast (show (0 : Int) ≤ ((M * j : Nat) : Int) + 11 * D + 275 by omega)
  have f2 : 10 * (D : Rat) + M * (j + 1) ≤ 250 := by exact_mod_cast (show 10 * D + ((M * (j + 1) : Nat) : Int) ≤ 250 by omega)
  have i1 : ((x : Rat) / M) ≤ (((11 : Rat) / 10) ^ j)⁻¹ := by
    refine rdiv_le hMq ?_
    have := Rat.mul_le_mul_of_nonneg_left b1 (Rat.le_of_lt (Rat.inv_pos.mpr q1))
    clear b2 q2 f1 f2 a1 a2 h1 h2 h3
    generalize ((11 : Rat) / 10) ^ j = u at *
    have hu : u⁻¹ * u = 1 := Rat.inv_mul_cancel u (by grind)
    rw [show u⁻¹ * ((x : Rat) * u) = x by rw [Rat.mul_comm (x : Rat) u, ← Rat.mul_assoc, hu, Rat.one_mul]] at this
    exact this
  have i2 : (((11 : Rat) / 10) ^ (j + 1))⁻¹ ≤ (x : Rat) / M := by
    refine le_rdiv hMq ?_
    have := Rat.mul_le_mul_of_nonneg_left b2 (Rat.le_of_lt (Rat.inv_pos.mpr q2))
    clear b1 q1 f1 f2 a1 a2 h1 h2 h3 i1
    generalize ((11 : Rat) / 10) ^ (j + 1) = u at *
    have hu : u⁻¹ * u = 1 := Rat.inv_mul_cancel u (by grind)
    rw [show u⁻¹ * ((x : Rat) * u) = x by rw [Rat.mul_comm (x : Rat) u, ← Rat.mul_assoc, hu, Rat.one_mul]] at this
    exact this
  constructor
  · refine ((ug11 (j + 1)).inv q2).mono (rdiv_le hMq ?_) i2
    have : (((j + 1 : Nat)) : Rat) = j + 1 := by push_cast; rfl
    rw [this]
    grind
  · refine ((lg11 j).inv q1).mono (le_rdiv hMq ?_) i1
    grind
/-- _ilog at ten and at a hundred: all arguments gone through -/
theorem ilog_12 {p : Nat} {x D : Int} (hp : p = 1 ∨ p = 2) (h1 : 10 ^ p ≤ 10 * x) (h2 : x ≤ 10 * 10 ^ p) :
    RedOk x (10 ^ p) ∧ (IsIlog p x (10 ^ p) D → Lg (((D : Rat) - 25) / 10 ^ p) ((x : Rat) / 10 ^ p) ∧ Ug (((D : Rat) + 25) / 10 ^ p) ((x : Rat) / 10 ^ p)) := by
  rcases hp with rfl | rfl
  · rcases Int.lt_or_le x 10 with g | g
    · have t := tab1d ⟨(x - 1).toNat, by omega⟩
      simp only at t
      obtain ⟨X, rfl⟩ : ∃ X : Nat, x = X := ⟨x.toNat, by omega⟩
      rw [show (1 + ((X : Int) - 1).toNat) = X by omega] at t
      refine ⟨?_, fun hD => chk_dn (M := 10) (by decide) (by omega) (by decide) t hD⟩
      unfold chkD at t
      simp only [Bool.and_eq_true] at t
      exact ilGo_red t.2.2
    · have t := tab1u ⟨(x - 10).toNat, by omega⟩
      simp only at t
      obtain ⟨X, rfl⟩ : ∃ X : Nat, x = X := ⟨x.toNat, by omega⟩
      rw [show (10 + ((X : Int) - 10).toNat) = X by omega] at t
      refine ⟨?_, fun hD => chk_up (M := 10) (by decide) (by decide) t hD⟩
      unfold chkU at t
      simp only [Bool.and_eq_true] at t
      exact ilGo_red t.2.2
  · rcases Int.lt_or_le x 100 with g | g
    · have t := tab2d ⟨(x - 10).toNat, by omega⟩
      simp only at t
      obtain ⟨X, rfl⟩ : ∃ X : Nat, x = X := ⟨x.toNat, by omega⟩
      rw [show (10 + ((X : Int) - 10).toNat) = X by omega] at t
      refine ⟨?_, fun hD => chk_dn (M := 100) (by decide) (by omega) (by decide) t hD⟩
      unfold chkD at t
      simp only [Bool.and_eq_true] at t
      exact ilGo_red t.2.2
    · obtain ⟨X, rfl⟩ : ∃ X : Nat, x = X := ⟨x.toNat, by omega⟩
      have t := tab2u X (by omega) (by omega)
      refine ⟨?_, fun hD => chk_up (M := 100) (by decide) (by decide) t hD⟩
      unfold chkU at t
      simp only [Bool.and_eq_true] at t
      exact ilGo_red t.2.2
end Mine

end
section
open PySem PySem.W PyProof.Rows
namespace Mine
theorem weak_lu {D B m q : Rat} (hm : 0 < m) (hB : 25 ≤ B) (h : Lg ((D - 25) / m) q ∧ Ug ((D + 25) / m) q) : Lg ((D - B) / m) q ∧ Ug ((D + B) / m) q := by
  constructor
  · refine h.1.mono (rdiv_le hm ?_) Rat.le_refl
    rw [fld3 hm]; grind
  · refine h.2.mono (rdiv_le hm ?_) Rat.le_refl
    rw [fld3 hm]; grind
theorem ilog_B1 {p : Nat} {x D : Int} (hp : 1 ≤ p) (hx : 10 ^ p ≤ x) (hx2 : x ≤ 10 * 10 ^ p) (hD : IsIlog p x (10 ^ p) D) :
    Lg (((D : Rat) - 31) / ((10 ^ p : Int) : Rat)) ((x : Rat) / ((10 ^ p : Int) : Rat)) ∧ Ug (((D : Rat) + 31) / ((10 ^ p : Int) : Rat)) ((x : Rat) / ((10 ^ p : Int) : Rat)) := by
  rcases Nat.lt_or_ge 2 p with g | g
  · exact ilog_B g rfl (pow_1000 g) hx hx2 hD
  · rw [cast_ten]
    exact weak_lu (tenq_pos p) (by decide +kernel) ((ilog_12 (by omega) (by omega) hx2).2 hD)
theorem ilog_T1 {p : Nat} {x D : Int} (hp : 1 ≤ p) (hx : 10 ^ p ≤ 10 * x) (hx2 : x ≤ 10 ^ p) (hD : IsIlog p x (10 ^ p) D) :
    Lg (((D : Rat) - 35) / ((10 ^ p : Int) : Rat)) ((x : Rat) / ((10 ^ p : Int) : Rat)) ∧ Ug (((D : Rat) + 35) / ((10 ^ p : Int) : Rat)) ((x : Rat) / ((10 ^ p : Int) : Rat)) := by
  rcases Nat.lt_or_ge 2 p with g | g
  · exact ilog_T g rfl (pow_1000 g) hx hx2 hD
  · rw [cast_ten]
    have := ten_k' p
    exact weak_lu (tenq_pos p) (by decide +kernel) ((ilog_12 (by omega) hx (by omega)).2 hD)
theorem redOk_1 {p : Nat} {x : Int} (hp : 1 ≤ p) (hx : 10 ^ p ≤ 10 * x) (hx2 : x ≤ 10 * 10 ^ p) : RedOk x (10 ^ p) := by
  rcases Nat.lt_or_ge 2 p with g | g
  · rcases Int.lt_or_le x (10 ^ p) with c | c
    · exact redOk_T (pow_1000 g) hx (by omega)
    · exact redOk_B (pow_1000 g) c hx2
  · exact (ilog_12 (D := 0) (by omega) hx hx2).1
/-- rounding the mantissa costs little -/
theorem mant_round1 {X Y m D B : Rat} (hm0 : 0 < m) (h1 : -(1 / 2) ≤ X - Y) (h2 : X - Y ≤ 1 / 2) (hX : m ≤ 10 * X) (hY : m ≤ 10 * Y) (l : Lg ((D - B) / m) (X / m)) (u : Ug ((D + B) / m) (X / m)) :
    Lg ((D - (B + 5)) / m) (Y / m) ∧ Ug ((D + (B + 5)) / m) (Y / m) := by
  have hX0 : 0 < X / m := rdiv_pos (by grind) hm0
  have hY0 : 0 < Y / m := rdiv_pos (by grind) hm0
  have i0 : 0 ≤ 5 / m := le_rdiv hm0 (by grind)
  have e3 : 5 / m * m = 5 := fld3 hm0
  constructor
  · refine (lg_near hX0 hY0 i0 ?_ l).mono ?_ Rat.le_refl
    · refine rdiv_le hm0 ?_
      have e5 : Y / m * (1 + 5 / m) * m = Y + Y * (5 / m) := by
        have : Y / m * m = Y := fld3 hm0
        grind
      rw [e5]
      have k1 := Rat.mul_nonneg (show 0 ≤ 10 * Y - m by grind) i0
      grind
    · have : (D - (B + 5)) / m = (D - B) / m - 5 / m := by grind
      grind
  · refine (ug_near hX0 hY0 i0 ?_ u).mono ?_ Rat.le_refl
    · refine rdiv_le hm0 ?_
      have e5 : X / m * (1 + 5 / m) * m = X + X * (5 / m) := by
        have : X / m * m = X := fld3 hm0
        grind
      rw [e5]
      have k1 := Rat.mul_nonneg (show 0 ≤ 10 * X - m by grind) i0
      grind
    · have : (D + (B + 5)) / m = (D + B) / m + 5 / m := by grind
      grind
/-- the mantissa of _dlog -/
theorem dl_mant1 {n : Nat} {c D : Int} (hn : 1 ≤ n) (hc : 1 ≤ c) (hD : IsIlog n (dlC c ((n : Int) + 1 - nd c)) (10 ^ n) D) :
    Lg (((D : Rat) - 158 / 5) / 10 ^ n) ((c : Rat) / 10 ^ (nd c - 1)) ∧ Ug (((D : Rat) + 158 / 5) / 10 ^ n) ((c : Rat) / 10 ^ (nd c - 1)) := by
  have h1 := nd_pos c (by omega)
  obtain ⟨c1, c2⟩ := nd_lo hc
  have hm0 := tenq_pos n
  have hcq : (0 : Rat) < c := by exact_mod_cast (show 0 < c by omega)
  have hp1 := tenq_pos (nd c - 1)
  have hq : 0 < (c : Rat) / 10 ^ (nd c - 1) := rdiv_pos hcq hp1
  rcases Int.lt_or_le ((n : Int) + 1 - nd c) 0 with hK | hK
  · -- rounded
    rw [dlC_neg (by omega)] at hD
    obtain ⟨j, hj⟩ : ∃ j : Nat, nd c = n + 1 + j ∧ 0 < j := ⟨nd c - (n + 1), by omega, by omega⟩
    have ej : (-((n : Int) + 1 - nd c)).toNat = j := by omega
    rw [ej] at hD
    have hpj : (0 : Int) < 10 ^ j := Int.pow_pos (by decide)
    have e1 : (10 : Int) ^ (nd c - 1) = 10 ^ n * 10 ^ j := by rw [← Int.pow_add]; congr 1; omega
    have e2 : (10 : Int) ^ nd c = 10 * 10 ^ n * 10 ^ j := by rw [Int.mul_assoc, ← Int.pow_add, ← Int.pow_succ']; congr 1; omega
    have x1 : 10 ^ n ≤ divN c (10 ^ j) := le_divN hpj (by rw [← e1]; exact c1)
    have x2 : divN c (10 ^ j) ≤ 10 * 10 ^ n := divN_le hpj (by rw [← e2]; omega)
    obtain ⟨l, u⟩ := ilog_B1 hn x1 x2 hD
    rw [cast_ten] at l u
    have d := divN_rat c (b := 10 ^ j) hpj
    rw [cast_ten] at d
    have eq1 : (c : Rat) / 10 ^ (nd c - 1) = (c : Rat) / 10 ^ j / 10 ^ n := by
      rw [show nd c - 1 = n + j by omega, ten_add]
      have := tenq_pos j
      have a1 : (10 : Rat) ^ j ≠ 0 := by grind
      have a2 : (10 : Rat) ^ n ≠ 0 := by grind
      grind
    have x1q : (10 : Rat) ^ n ≤ ((divN c (10 ^ j) : Int) : Rat) := by
      have := Rat.intCast_le_intCast.mpr x1
      rwa [cast_ten] at this
    have hcj : (10 : Rat) ^ n ≤ (c : Rat) / 10 ^ j := by
      refine le_rdiv (tenq_pos j) ?_
      have := Rat.intCast_le_intCast.mpr c1
      rw [e1, Rat.intCast_mul, cast_ten, cast_ten] at this
      exact this
    rw [eq1]
    generalize ((divN c (10 ^ j) : Int) : Rat) = X at *
    generalize (c : Rat) / 10 ^ j = Y at *
    generalize (10 : Rat) ^ n = m at *
    have hX : 0 < X / m := rdiv_pos (by grind) hm0
    have hY : 0 < Y / m := rdiv_pos (by grind) hm0
    have i0 : 0 ≤ 3 / 5 / m := le_rdiv hm0 (by grind)
    have e3 : 3 / 5 / m * m = 3 / 5 := fld3 hm0
    constructor
    · refine (lg_near hX hY i0 ?_ l).mono ?_ Rat.le_refl
      · refine rdiv_le hm0 ?_
        have e5 : Y / m * (1 + 3 / 5 / m) * m = Y + Y * (3 / 5 / m) := by
          have : Y / m * m = Y := fld3 hm0
          grind
        rw [e5]
        have k1 := Rat.mul_nonneg (show 0 ≤ Y - m by grind) i0
        grind
      · have : (D - 158 / 5 : Rat) / m = (D - 31 : Rat) / m - 3 / 5 / m := by grind
        grind
    · refine (ug_near hX hY i0 ?_ u).mono ?_ Rat.le_refl
      · refine rdiv_le hm0 ?_
        have e5 : X / m * (1 + 3 / 5 / m) * m = X + X * (3 / 5 / m) := by
          have : X / m * m = X := fld3 hm0
          grind
        rw [e5]
        have k1 := Rat.mul_nonneg (show 0 ≤ X - m by grind) i0
        grind
      · have : (D + 158 / 5 : Rat) / m = (D + 31 : Rat) / m + 3 / 5 / m := by grind
        grind
  · rw [dlC_pos hK] at hD
    obtain ⟨j, hj⟩ : ∃ j : Nat, n + 1 = nd c + j := ⟨n + 1 - nd c, by omega⟩
    have ej : ((n : Int) + 1 - nd c).toNat = j := by omega
    rw [ej] at hD
    have hpj : (0 : Int) < 10 ^ j := Int.pow_pos (by decide)
    have e1 : (10 : Int) ^ n = 10 ^ (nd c - 1) * 10 ^ j := by rw [← Int.pow_add]; congr 1; omega
    have x1 : 10 ^ n ≤ c * 10 ^ j := by rw [e1]; exact Int.mul_le_mul_of_nonneg_right c1 (by omega)
    have x2 : c * 10 ^ j ≤ 10 * 10 ^ n := by
      have e2 : (10 : Int) * 10 ^ n = 10 ^ nd c * 10 ^ j := by rw [← Int.pow_succ', ← Int.pow_add]; congr 1
      rw [e2]
      exact Int.mul_le_mul_of_nonneg_right (by omega) (by omega)
    obtain ⟨l, u⟩ := ilog_B1 hn x1 x2 hD
    rw [cast_ten, Rat.intCast_mul, cast_ten] at l u
    have eq1 : (c : Rat) * 10 ^ j / 10 ^ n = (c : Rat) / 10 ^ (nd c - 1) := by
      rw [show n = (nd c - 1) + j by omega, ten_add]
      have := tenq_pos j
      have a1 : (10 : Rat) ^ j ≠ 0 := by grind
      have a2 : (10 : Rat) ^ (nd c - 1) ≠ 0 := by grind
      grind
    rw [eq1] at l u
    generalize (10 : Rat) ^ n = m at *
    constructor
    · refine l.mono (rdiv_le hm0 ?_) Rat.le_refl
      rw [fld3 hm0]; grind
    · refine u.mono (rdiv_le hm0 ?_) Rat.le_refl
      rw [fld3 hm0]; grind
/-- the mantissa from a tenth up to one -/
theorem dl_mantD1 {n : Nat} {c D : Int} (hn : 1 ≤ n) (hc : 1 ≤ c) (hD : IsIlog n (dlC c ((n : Int) - nd c)) (10 ^ n) D) :
    Lg (((D : Rat) - 40) / 10 ^ n) ((c : Rat) / 10 ^ nd c) ∧ Ug (((D : Rat) + 40) / 10 ^ n) ((c : Rat) / 10 ^ nd c) := by
  have h1 := nd_pos c (by omega)
  obtain ⟨c1, c2⟩ := nd_lo hc
  have hm0 := tenq_pos n
  have hcq : (0 : Rat) < c := by exact_mod_cast (show 0 < c by omega)
  rcases Int.lt_or_le ((n : Int) - nd c) 0 with hK | hK
  · rw [dlC_neg (by omega)] at hD
    obtain ⟨j, hj⟩ : ∃ j : Nat, nd c = n + j ∧ 0 < j := ⟨nd c - n, by omega, by omega⟩
    have ej : (-((n : Int) - nd c)).toNat = j := by omega
    rw [ej] at hD
    have hpj : (0 : Int) < 10 ^ j := Int.pow_pos (by decide)
    have e1 : (10 : Int) ^ nd c = 10 ^ n * 10 ^ j := by rw [← Int.pow_add]; congr 1; omega
    have e2 : 10 * (10 : Int) ^ (nd c - 1) = 10 ^ n * 10 ^ j := by rw [← e1, ← Int.pow_succ']; congr 1; omega
    have x2 : divN c (10 ^ j) ≤ 10 ^ n := divN_le hpj (by rw [← e1]; omega)
    have x1 : 10 ^ n ≤ 10 * divN c (10 ^ j) := by
      obtain ⟨k, hk⟩ : ∃ k : Int, (10 : Int) ^ n = 10 * k := ⟨10 ^ (n - 1), by rw [← Int.pow_succ']; congr 1; omega⟩
      have : k ≤ divN c (10 ^ j) := le_divN hpj (by
        have e9 : 10 * (k * 10 ^ j) = 10 ^ n * 10 ^ j := by rw [hk, Int.mul_assoc]
        omega)
      omega
    obtain ⟨l, u⟩ := ilog_T1 hn x1 x2 hD
    rw [cast_ten] at l u
    have d := divN_rat c (b := 10 ^ j) hpj
    rw [cast_ten] at d
    have eq1 : (c : Rat) / 10 ^ nd c = (c : Rat) / 10 ^ j / 10 ^ n := by
      rw [show nd c = n + j by omega, ten_add]
      have := tenq_pos j
      have a1 : (10 : Rat) ^ j ≠ 0 := by grind
      have a2 : (10 : Rat) ^ n ≠ 0 := by grind
      grind
    have x1q : (10 : Rat) ^ n ≤ 10 * ((divN c (10 ^ j) : Int) : Rat) := by
      have := Rat.intCast_le_intCast.mpr x1
      rwa [cast_ten, Rat.intCast_mul] at this
    have hcj : (10 : Rat) ^ n ≤ 10 * ((c : Rat) / 10 ^ j) := by
      have h5 : (10 : Rat) ^ n / 10 ≤ (c : Rat) / 10 ^ j := by
        refine le_rdiv (tenq_pos j) ?_
        have := Rat.intCast_le_intCast.mpr (show 10 ^ n * 10 ^ j ≤ 10 * c by omega)
        rw [Rat.intCast_mul, Rat.intCast_mul, cast_ten, cast_ten, show (((10 : Int)) : Rat) = 10 from rfl] at this
        grind
      grind
    rw [eq1]
    have k := mant_round1 hm0 d.1 d.2 x1q hcj l u
    rw [show (35 : Rat) + 5 = 40 by grind] at k
    exact k
  · rw [dlC_pos hK] at hD
    obtain ⟨j, hj⟩ : ∃ j : Nat, n = nd c + j := ⟨n - nd c, by omega⟩
    have ej : ((n : Int) - nd c).toNat = j := by omega
    rw [ej] at hD
    have hpj : (0 : Int) < 10 ^ j := Int.pow_pos (by decide)
    have e1 : (10 : Int) ^ n = 10 ^ nd c * 10 ^ j := by rw [← Int.pow_add]; congr 1
    have e2 : (10 : Int) ^ n = 10 * (10 ^ (nd c - 1) * 10 ^ j) := by rw [← Int.mul_assoc, ← Int.pow_succ', ← Int.pow_add]; congr 1; omega
    have x1 : 10 ^ n ≤ 10 * (c * 10 ^ j) := by
      rw [e2]
      have := Int.mul_le_mul_of_nonneg_right c1 (Int.le_of_lt hpj)
      omega
    have x2 : c * 10 ^ j ≤ 10 ^ n := by
      rw [e1]
      exact Int.mul_le_mul_of_nonneg_right (by omega) (by omega)
    obtain ⟨l, u⟩ := ilog_T1 hn x1 x2 hD
    rw [cast_ten, Rat.intCast_mul, cast_ten] at l u
    have eq1 : (c : Rat) * 10 ^ j / 10 ^ n = (c : Rat) / 10 ^ nd c := by
      rw [show n = nd c + j by omega, ten_add]
      have := tenq_pos j
      have := tenq_pos (nd c)
      have a1 : (10 : Rat) ^ j ≠ 0 := by grind
      have a2 : (10 : Rat) ^ nd c ≠ 0 := by grind
      generalize (10 : Rat) ^ nd c = y at *
      grind
    rw [eq1] at l u
    generalize (10 : Rat) ^ n = m at *
    constructor
    · refine l.mono (rdiv_le hm0 ?_) Rat.le_refl
      rw [fld3 hm0]; grind
    · refine u.mono (rdiv_le hm0 ?_) Rat.le_refl
      rw [fld3 hm0]; grind
/-- _dlog, from one on: the answer within 93 hundredths of a unit of the last place -/
theorem dl_gen1 {n f : Nat} {c e r : Int} (hn : 1 ≤ n) (hc : 1 ≤ c) (hf : e + nd c - 1 = (f : Int)) (hx : n + (nd (f : Int) - 1) ≤ 46) (h : IsDlog n c e r) :
    Lg ((100 * (r : Rat) - 93) / 10 ^ n) ((c : Rat) / 10 ^ (nd c - 1) * 10 ^ f) ∧ Ug ((100 * (r : Rat) + 93) / 10 ^ n) ((c : Rat) / 10 ^ (nd c - 1) * 10 ^ f) := by
  obtain ⟨D, hD, rfl⟩ := h
  have hF : dlF c e = (f : Int) := by
    unfold dlF
    rw [if_pos (by simp; omega)]; omega
  rw [hF] at hD ⊢
  rw [show e + (n : Int) - (f : Int) = (n : Int) + 1 - nd c by omega] at hD
  obtain ⟨a, b⟩ := dl_mant1 hn hc hD
  obtain ⟨a', b'⟩ := dl_ten (n := n) hx
  have l := Lg.add a a'
  have u := Ug.add (tenq_pos f) b b'
  have d := divN_rat (dlT (f : Int) n + D) (b := 100) (by decide)
  rw [Rat.intCast_add, show (((100 : Int)) : Rat) = 100 from rfl] at d
  have hm0 := tenq_pos n
  generalize ((divN (dlT (f : Int) n + D) 100 : Int) : Rat) = r at *
  generalize ((dlT (f : Int) n : Int) : Rat) = T at *
  generalize (D : Rat) = D at *
  generalize (10 : Rat) ^ n = m at *
  have e1 : (D - 158 / 5) / m + (T - 1 / 2) / m = (D - 158 / 5 + (T - 1 / 2)) / m := by grind
  have e2 : (D + 158 / 5) / m + (T + 21 / 2) / m = (D + 158 / 5 + (T + 21 / 2)) / m := by grind
  rw [e1] at l
  rw [e2] at u
  constructor
  · refine l.mono (rdiv_le hm0 ?_) Rat.le_refl
    rw [fld3 hm0]; grind
  · refine u.mono (rdiv_le hm0 ?_) Rat.le_refl
    rw [fld3 hm0]; grind
/-- _dlog: the answer within 1.02 units of the last place -/
theorem dl_all1 {n : Nat} {c e r : Int} (hn : 1 ≤ n) (hc : 1 ≤ c) (hx : n + (nd ((dlF c e).natAbs : Int) - 1) ≤ 46) (h : IsDlog n c e r) :
    Lg ((100 * (r : Rat) - 102) / 10 ^ n) (valQ c e) ∧ Ug ((100 * (r : Rat) + 102) / 10 ^ n) (valQ c e) := by
  have hm0 := tenq_pos n
  rcases Int.lt_or_le 0 (e + nd c) with hp | hp
  · obtain ⟨f, hf⟩ : ∃ f : Nat, e + nd c - 1 = (f : Int) := ⟨(e + nd c - 1).toNat, by omega⟩
    have hF := dlF_up hf
    rw [hF, show (((f : Int).natAbs : Nat) : Int) = (f : Int) by omega] at hx
    have k := dl_gen1 hn hc hf hx h
    have hnd := nd_pos c (by omega)
    have ev : (c : Rat) / 10 ^ (nd c - 1) * 10 ^ f = valQ c e := by
      have q1 := tenq_pos (nd c - 1)
      unfold valQ
      split
      · obtain ⟨j, hj⟩ : ∃ j : Nat, e = (j : Int) := ⟨e.toNat, by omega⟩
        rw [show f = j + (nd c - 1) by omega, ten_add, show e.toNat = j by omega]
        generalize (10 : Rat) ^ (nd c - 1) = y at *
        have : y ≠ 0 := by grind
        grind
      · obtain ⟨j, hj⟩ : ∃ j : Nat, -e = (j : Int) := ⟨(-e).toNat, by omega⟩
        rw [show nd c - 1 = f + j by omega, ten_add, show (-e).toNat = j by omega]
        have q2 := tenq_pos f
        have q3 := tenq_pos j
        generalize (10 : Rat) ^ f = y at *
        generalize (10 : Rat) ^ j = z at *
        have : y ≠ 0 := by grind
        have : z ≠ 0 := by grind
        grind
    rw [ev] at k
    generalize (10 : Rat) ^ n = m at *
    constructor
    · refine k.1.mono (rdiv_le hm0 ?_) Rat.le_refl
      rw [fld3 hm0]; grind
    · refine k.2.mono (rdiv_le hm0 ?_) Rat.le_refl
      rw [fld3 hm0]; grind
  · obtain ⟨g, hg⟩ : ∃ g : Nat, e + nd c = -(g : Int) := ⟨(-(e + nd c)).toNat, by omega⟩
    have hF := dlF_dn hg
    obtain ⟨D, hD, rfl⟩ := h
    rw [hF] at hD ⊢
    rw [hF, show (((-(g : Int)).natAbs : Nat) : Int) = (g : Int) by omega] at hx
    rw [show e + (n : Int) - -(g : Int) = (n : Int) - nd c by omega] at hD
    obtain ⟨a, b⟩ := dl_mantD1 hn hc hD
    have hnd := nd_pos c (by omega)
    have ev : (c : Rat) / 10 ^ nd c * ((10 : Rat) ^ g)⁻¹ = valQ c e := by
      unfold valQ
      rw [if_neg (by omega), show (-e).toNat = nd c + g by omega, ten_add]
      have q2 := tenq_pos (nd c)
      have q3 := tenq_pos g
      generalize (10 : Rat) ^ nd c = y at *
      generalize (10 : Rat) ^ g = z at *
      have : y ≠ 0 := by grind
      have : z ≠ 0 := by grind
      grind
    have d := divN_rat (dlT (-(g : Int)) n + D) (b := 100) (by decide)
    rw [Rat.intCast_add, show (((100 : Int)) : Rat) = 100 from rfl] at d
    have tt : Lg (((dlT (-(g : Int)) n : Int) - 21 / 2) / 10 ^ n) ((10 : Rat) ^ g)⁻¹ ∧ Ug (((dlT (-(g : Int)) n : Int) + 21 / 2) / 10 ^ n) ((10 : Rat) ^ g)⁻¹ := by
      rcases Nat.eq_zero_or_pos g with h0 | h0
      · subst h0
        have e0 : dlT (-((0 : Nat) : Int)) n = 0 := by rw [dlT, if_pos (by rfl)]
        rw [e0]
        have e1 : ((10 : Rat) ^ 0)⁻¹ = 1 := by decide +kernel
        rw [e1]
        have z0 : (((0 : Int)) : Rat) = 0 := rfl
        refine ⟨Lg.zero.mono (rdiv_le hm0 ?_) Rat.le_refl, Ug.zero.mono (le_rdiv hm0 ?_) Rat.le_refl⟩
        · rw [z0, Rat.zero_mul]; decide +kernel
        · rw [z0, Rat.zero_mul]; decide +kernel
      · obtain ⟨x, y⟩ := dl_tenD h0 hx
        refine ⟨x, y.mono (rdiv_le hm0 ?_) Rat.le_refl⟩
        rw [fld3 hm0]; grind
    have l := Lg.add a tt.1
    have u := Ug.add (Rat.inv_pos.mpr (tenq_pos g)) b tt.2
    rw [ev] at l u
    generalize ((divN (dlT (-(g : Int)) n + D) 100 : Int) : Rat) = r at *
    generalize ((dlT (-(g : Int)) n : Int) : Rat) = T at *
    generalize (D : Rat) = D at *
    generalize (10 : Rat) ^ n = m at *
    have e1 : (D - 40) / m + (T - 21 / 2) / m = (D - 40 + (T - 21 / 2)) / m := by grind
    have e2 : (D + 40) / m + (T + 21 / 2) / m = (D + 40 + (T + 21 / 2)) / m := by grind
    rw [e1] at l
    rw [e2] at u
    constructor
    · refine l.mono (rdiv_le hm0 ?_) Rat.le_refl
      rw [fld3 hm0]; grind
    · refine u.mono (rdiv_le hm0 ?_) Rat.le_refl
      rw [fld3 hm0]; grind
end Mine

end
section
open PySem PySem.W PyProof.Rows
namespace Mine
theorem ten_lu : Lg (2302 / 1000) 10 ∧ Ug (2303 / 1000) 10 := by
  constructor
  · exact (l10_lg (q := 3) (by decide)).mono (by decide +kernel) Rat.le_refl
  · exact (l10_ug (q := 3) (by decide)).mono (by decide +kernel) Rat.le_refl
/-- the mantissa lies from a tenth to ten -/
theorem mant_lu {c e f : Int} (hc : 1 ≤ c) (hf : dlF c e = f) : ∃ t : Rat, valQ c e = t * tenZ f ∧ 0 < t ∧ Lg (-(24 / 10)) t ∧ Ug (24 / 10) t := by
  have hn := nd_pos c (by omega)
  obtain ⟨c1, c2⟩ := nd_lo hc
  have q1 := Rat.intCast_le_intCast.mpr c1
  have q2 := Rat.intCast_le_intCast.mpr (Int.le_of_lt c2)
  rw [cast_ten] at q1 q2
  have hcq : (0 : Rat) < c := by exact_mod_cast (show 0 < c by omega)
  have ht := tenZ_pos (e - f)
  have hef : e - f = -(nd c : Int) ∨ e - f = 1 - (nd c : Int) := by
    unfold dlF at hf
    split at hf <;> omega
  have hk : tenZ (nd c : Int) = 10 ^ nd c := tenZ_nat _
  have p1 := tenq_pos (nd c)
  have p2 := tenq_pos (nd c - 1)
  have e1 : (10 : Rat) ^ nd c = 10 * 10 ^ (nd c - 1) := by
    rw [show nd c = 1 + (nd c - 1) by omega, ten_add, show 1 + (nd c - 1) - 1 = nd c - 1 by omega]
    rw [show (10 : Rat) ^ 1 = 10 by decide +kernel]
  have k0 : tenZ (-(nd c : Int)) * 10 ^ nd c = 1 := by
    rw [← hk, ← tenZ_add]
    rw [show -(nd c : Int) + nd c = 0 by omega]; decide +kernel
  refine ⟨c * tenZ (e - f), ?_, Rat.mul_pos hcq ht, ?_, ?_⟩
  · rw [valQ_ten, Rat.mul_assoc, ← tenZ_add, show e - f + f = e by omega]
  · have i := (ten_lu.2.inv (by decide +kernel)).mono (show (-(24 / 10) : Rat) ≤ -(2303 / 1000) by decide +kernel) Rat.le_refl
    refine i.mono Rat.le_refl ?_
    have h1 : 1 ≤ 10 * ((c : Rat) * tenZ (-(nd c : Int))) := by
      have := Rat.mul_le_mul_of_nonneg_right q1 (Rat.le_of_lt (tenZ_pos (-(nd c : Int))))
      rw [e1] at k0
      have : tenZ (-(nd c : Int)) * (10 * 10 ^ (nd c - 1)) = 10 * (10 ^ (nd c - 1) * tenZ (-(nd c : Int))) := by
        generalize tenZ (-(nd c : Int)) = T
        generalize (10 : Rat) ^ (nd c - 1) = u
        grind
      rw [this] at k0
      generalize (c : Rat) * tenZ (-(nd c : Int)) = X at *
      generalize (10 : Rat) ^ (nd c - 1) * tenZ (-(nd c : Int)) = Y at *
      clear q1 q2 e1 p1 p2 hk i
      grind
    rw [show ((10 : Rat)⁻¹) = 1 / 10 by decide +kernel]
    generalize hT : tenZ (-(nd c : Int)) = T at *
    rcases hef with h | h
    · rw [h, hT]; grind
    · rw [h, show (1 : Int) - nd c = 1 + -(nd c : Int) by omega, tenZ_add, show tenZ 1 = 10 by decide +kernel, hT]
      grind
  · refine ten_lu.2.mono (by decide +kernel) ?_
    have h1 : (c : Rat) * tenZ (-(nd c : Int)) ≤ 1 := by
      have := Rat.mul_le_mul_of_nonneg_right q2 (Rat.le_of_lt (tenZ_pos (-(nd c : Int))))
      grind
    rcases hef with h | h
    · rw [h]; grind
    · rw [h, show (1 : Int) - nd c = 1 + -(nd c : Int) by omega, tenZ_add, show tenZ 1 = 10 by decide +kernel]
      grind
/-- what _dlog adds for the power of ten where no places are asked -/
def dlTz (n f : Int) : Int := divN (f * l10 (n + ((nd (f.natAbs : Int) - 1 : Nat) : Int)).toNat) (10 ^ (nd (f.natAbs : Int) - 1))
theorem dl_low {m : Nat} {c e r f : Int} (hc : 1 ≤ c) (hf : dlF c e = f) (hf0 : f ≠ 0) (hq : m ≤ nd (f.natAbs : Int) - 1) (hq2 : nd (f.natAbs : Int) - 1 ≤ 46 + m) (hr : r = divN (dlTz (-(m : Int)) f + 0) 100) :
    Lg ((100 * (r : Rat) - 102) * 10 ^ m) (valQ c e) ∧ Ug ((100 * (r : Rat) + 102) * 10 ^ m) (valQ c e) := by
  obtain ⟨t, ev, ht, tl, tu⟩ := mant_lu hc hf
  unfold dlTz at hr
  obtain ⟨f1, f2⟩ := nd_lo (c := (f.natAbs : Int)) (by omega)
  have hnd := nd_pos (f.natAbs : Int) (by omega)
  generalize hex : nd (f.natAbs : Int) - 1 = ex at *
  obtain ⟨q, hqq⟩ : ∃ q, ex = q + m := ⟨ex - m, by omega⟩
  rw [show (-(m : Int) + (ex : Int)).toNat = q by omega, Int.add_zero] at hr
  have f3 : (f.natAbs : Int) < 10 * 10 ^ ex := by
    rw [show nd (f.natAbs : Int) = ex + 1 by omega, Int.pow_succ] at f2; omega
  have hpx : (0 : Int) < 10 ^ ex := Int.pow_pos (by decide)
  have d := divN_rat (f * l10 q) (b := 10 ^ ex) hpx
  have dr := divN_rat (divN (f * l10 q) (10 ^ ex)) (b := 100) (by decide)
  rw [← hr, show (((100 : Int)) : Rat) = 100 from rfl] at dr
  rw [cast_ten, Rat.intCast_mul] at d
  have w1 : (f : Rat) ≤ 10 * 10 ^ ex := by
    have := Rat.intCast_le_intCast.mpr (show f ≤ 10 * 10 ^ ex by omega)
    rw [Rat.intCast_mul, cast_ten] at this
    exact this
  have w2 : -(f : Rat) ≤ 10 * 10 ^ ex := by
    have := Rat.intCast_le_intCast.mpr (show -f ≤ 10 * 10 ^ ex by omega)
    rw [Rat.intCast_mul, cast_ten, Rat.intCast_neg] at this
    exact this
  have hlp : (0 : Rat) ≤ (l10 q : Int) := by exact_mod_cast Int.le_of_lt (l10_pos q (by omega))
  obtain ⟨zl, zu⟩ := tenZ_log (tenq_pos q) hlp w1 w2 (l10_lg (by omega)) (l10_ug (by omega))
  have l := Lg.add tl zl
  have u := Ug.add (tenZ_pos f) tu zu
  rw [← ev] at l u
  have hm := tenq_pos m
  have hm1 := ten_ge1 m
  have hqp := tenq_pos q
  generalize ((divN (f * l10 q) (10 ^ ex) : Int) : Rat) = T at *
  rw [hqq, ten_add] at d l u
  generalize ((l10 q : Int) : Rat) = L at *
  generalize (10 : Rat) ^ q = Q at *
  generalize (10 : Rat) ^ m = M at *
  have a1 : Q ≠ 0 := by grind
  have a2 : M ≠ 0 := by grind
  have e1 : ((f : Rat) * L - 10 * (Q * M)) / Q = (f * L / (Q * M) - 10) * M := by grind
  have e2 : ((f : Rat) * L + 10 * (Q * M)) / Q = (f * L / (Q * M) + 10) * M := by grind
  rw [e1] at l
  rw [e2] at u
  generalize (f : Rat) * L / (Q * M) = v at *
  have h24 : 24 / 10 ≤ 24 / 10 * M := by grind
  clear zl zu
  constructor
  · refine l.mono ?_ Rat.le_refl
    have := Rat.mul_le_mul_of_nonneg_right (show 100 * (r : Rat) - 102 ≤ v - 10 - 24 / 10 by grind) (Rat.le_of_lt hm)
    grind
  · refine u.mono ?_ Rat.le_refl
    have := Rat.mul_le_mul_of_nonneg_right (show v + 10 + 24 / 10 ≤ 100 * (r : Rat) + 102 by grind) (Rat.le_of_lt hm)
    grind
/-- what _dlog tells, whatever the places -/
def IsDlogZ (n : Int) (c e r : Int) : Prop := (0 < n ∧ IsDlog n.toNat c e r) ∨ (n ≤ 0 ∧ r = divN (dlTz n (dlF c e) + 0) 100)
/-- what the walk of _dlog asks -/
def DlOkZ (n : Int) (c e : Int) : Prop := n ≤ 46 ∧ Fit 1100 c ∧ 1 ≤ c ∧ -10000000000000000 ≤ dlF c e ∧ dlF c e ≤ 10000000000000000 ∧ n + (nd ((dlF c e).natAbs : Int) - 1 : Nat) ≤ 46 ∧ nd c ≤ 100 ∧ (n ≤ 0 → dlF c e ≠ 0 ∧ 0 ≤ n + (nd ((dlF c e).natAbs : Int) - 1 : Nat))
theorem dl_Z {n : Int} {c e r : Int} (ok : DlOkZ n c e) (h : IsDlogZ n c e r) : Lg ((100 * (r : Rat) - 102) * tenZ (-n)) (valQ c e) ∧ Ug ((100 * (r : Rat) + 102) * tenZ (-n)) (valQ c e) := by
  obtain ⟨h46, hF, hc, hf1, hf2, hx, hnc, h0⟩ := ok
  rcases h with ⟨hn, h⟩ | ⟨hn, h⟩
  · obtain ⟨k, rfl⟩ : ∃ k : Nat, n = k := ⟨n.toNat, by omega⟩
    rw [Int.toNat_natCast] at h
    have := dl_all1 (n := k) (by omega) hc (by omega) h
    have e : tenZ (-(k : Int)) = (10 ^ k)⁻¹ := by
      have h1 : tenZ (-(k : Int)) * 10 ^ k = 1 := by
        rw [← tenZ_nat, ← tenZ_add, show -(k : Int) + k = 0 by omega]; decide +kernel
      have := tenq_pos k
      grind
    rw [e]
    have := tenq_pos k
    grind
  · obtain ⟨m, rfl⟩ : ∃ m : Nat, n = -(m : Int) := ⟨(-n).toNat, by omega⟩
    have := dl_low hc rfl (h0 hn).1 (by have := (h0 hn).2; omega) (by omega) h
    rw [Int.neg_neg, tenZ_nat]
    exact this
end Mine

end
section
open PySem PySem.W PyProof.Rows
namespace Mine
/-- what law 10 builds: x = xc * 10^xe, the places P, z = zc * 10^(s + 1 - k), k the digits of zc -/
def A10 (xc xe : Int) (P : Nat) (zc s : Int) (k : Nat) : Prop := 2 ≤ xc ∧ xc < 10 ^ 13 ∧ -1000000000 ≤ xe ∧ xe ≤ 1000000000 ∧ (∀ m : Nat, xe = -(m : Int) → m < 20 → xc ≠ 10 ^ m) ∧ nd xc ≤ P ∧ P ≤ 17 ∧ zc ≠ 0 ∧ nd (zc.natAbs : Int) = k ∧ k ≤ 13 ∧ -12 ≤ s ∧ s ≤ 12
theorem ipow10_le {a b : Nat} (h : a ≤ b) : (10 : Int) ^ a ≤ 10 ^ b := by
  obtain ⟨j, rfl⟩ := Nat.le.dest h
  rw [Int.pow_add]
  have p1 := ten_k' a
  have := Int.mul_le_mul_of_nonneg_left (show (1 : Int) ≤ 10 ^ j by have := ten_k' j; omega) (Int.le_of_lt p1)
  omega
theorem qpow10_le {a b : Nat} (h : a ≤ b) : (10 : Rat) ^ a ≤ 10 ^ b := by
  have := Rat.intCast_le_intCast.mpr (ipow10_le h)
  rwa [cast_ten, cast_ten] at this
section
variable {xc xe zc s D yc : Int} {P k : Nat}
theorem xc_P (a : A10 xc xe P zc s k) : 1 ≤ P ∧ xc < 10 ^ P := by
  have h := nd_pos xc (by have := a.1; omega)
  have h2 := (nd_lo (c := xc) (by have := a.1; omega)).2
  have := a.2.2.2.2.2.1
  have := ipow10_le this
  exact ⟨by omega, by omega⟩
theorem val_far (a : A10 xc xe P zc s k) : (10 : Rat) ^ P + 1 ≤ valQ xc xe * 10 ^ P ∨ valQ xc xe * 10 ^ P ≤ (10 : Rat) ^ P - 1 := by
  obtain ⟨hP, hxP⟩ := xc_P a
  obtain ⟨h2, h13, hx1, hx2, hne, _⟩ := a
  have p0 := tenq_pos P
  have hP1 := qpow10_le hP
  rw [show (10 : Rat) ^ 1 = 10 by decide +kernel] at hP1
  have hxq : (2 : Rat) ≤ xc := by exact_mod_cast h2
  rcases Int.lt_or_le xe 0 with g | g
  · obtain ⟨m, hm⟩ : ∃ m : Nat, xe = -(m : Int) := ⟨(-xe).toNat, by omega⟩
    have ev : valQ xc xe * 10 ^ m = xc := by
      unfold valQ
      rw [if_neg (by omega), show (-xe).toNat = m by omega, fld3 (tenq_pos m)]
    have pm := tenq_pos m
    rcases Int.lt_trichotomy xc (10 ^ m) with c | c | c
    · right
      have c1 := Rat.intCast_le_intCast.mpr (show xc ≤ 10 ^ m - 1 by omega)
      rw [Rat.intCast_sub, cast_ten, show (((1 : Int)) : Rat) = 1 from rfl] at c1
      rcases Nat.lt_or_ge P m with c2 | c2
      · have c3 := Rat.intCast_le_intCast.mpr (Int.le_of_lt hxP)
        rw [cast_ten] at c3
        have c4 := qpow10_le (show P + 1 ≤ m by omega)
        rw [ten_add, show (10 : Rat) ^ 1 = 10 by decide +kernel] at c4
        have : valQ xc xe * 10 ≤ 1 := by
          refine rle_mul pm ?_
          have : valQ xc xe * 10 * 10 ^ m = 10 * (valQ xc xe * 10 ^ m) := by grind
          rw [this, ev]; grind
        have := Rat.mul_le_mul_of_nonneg_right this (Rat.le_of_lt p0)
        grind
      · obtain ⟨j, rfl⟩ := Nat.le.dest c2
        rw [ten_add]
        have h1 := ten_ge1 j
        have := Rat.mul_le_mul_of_nonneg_right (show valQ xc xe * 10 ^ m ≤ 10 ^ m - 1 by rw [ev]; exact c1) (Rat.le_of_lt (tenq_pos j))
        grind
    · exfalso
      rcases Nat.lt_or_ge m 20 with c2 | c2
      · exact hne m hm c2 c
      · have := ipow10_le (show 13 ≤ m by omega)
        omega
    · left
      have c1 := Rat.intCast_le_intCast.mpr (show 10 ^ m + 1 ≤ xc by omega)
      rw [Rat.intCast_add, cast_ten, show (((1 : Int)) : Rat) = 1 from rfl] at c1
      have c2 : m ≤ P := by
        rcases Nat.lt_or_ge P m with c2 | c2
        · have := ipow10_le (Nat.le_of_lt c2); omega
        · exact c2
      obtain ⟨j, rfl⟩ := Nat.le.dest c2
      rw [ten_add]
      have h1 := ten_ge1 j
      have := Rat.mul_le_mul_of_nonneg_right (show 10 ^ m + 1 ≤ valQ xc xe * 10 ^ m by rw [ev]; exact c1) (Rat.le_of_lt (tenq_pos j))
      grind
  · left
    have h1 := ten_ge1 xe.toNat
    have ev : 2 ≤ valQ xc xe := by
      unfold valQ
      rw [if_pos g]
      have := Rat.mul_le_mul_of_nonneg_right hxq (Rat.le_of_lt (tenq_pos xe.toNat))
      grind
    have := Rat.mul_le_mul_of_nonneg_right ev (Rat.le_of_lt p0)
    grind
/-- x is not one, and by how much -/
theorem val_gap (a : A10 xc xe P zc s k) : Lg (9 / 10 / 10 ^ P) (valQ xc xe) ∨ Ug (-(9 / 10 / 10 ^ P)) (valQ xc xe) := by
  have p0 := tenq_pos P
  have hP1 := qpow10_le (xc_P a).1
  rw [show (10 : Rat) ^ 1 = 10 by decide +kernel] at hP1
  rcases val_far a with h | h
  · left
    have q0 : 0 < (10 : Rat) ^ P + 1 := by grind
    have hq : ((10 : Rat) ^ P + 1) / 10 ^ P ≤ valQ xc xe := rdiv_le p0 h
    refine (Lg.basic (t := 10 ^ P / (10 ^ P + 1)) (q := (10 ^ P + 1) / 10 ^ P) (rdiv_pos p0 q0) ?_).mono ?_ hq
    · rw [rdiv_mul p0]
      have : ((10 : Rat) ^ P + 1) / (10 ^ P + 1) = 1 := by
        have : (10 : Rat) ^ P + 1 ≠ 0 := by grind
        grind
      grind
    · have e1 : 1 - (10 : Rat) ^ P / (10 ^ P + 1) = 1 / (10 ^ P + 1) := by
        have : (10 : Rat) ^ P + 1 ≠ 0 := by grind
        grind
      rw [e1]
      refine rdiv_le p0 ?_
      have e2 : 1 / ((10 : Rat) ^ P + 1) * 10 ^ P = 10 ^ P / (10 ^ P + 1) := by grind
      rw [e2]
      exact le_rdiv q0 (by grind)
  · right
    have q0 : 0 < ((10 : Rat) ^ P - 1) / 10 ^ P := rdiv_pos (by grind) p0
    refine (Ug.basic (q := (10 ^ P - 1) / 10 ^ P) q0).mono ?_ (le_rdiv p0 h)
    have e1 : ((10 : Rat) ^ P - 1) / 10 ^ P - 1 = -(1 / 10 ^ P) := by
      have : (10 : Rat) ^ P ≠ 0 := by grind
      grind
    have e2 : (9 : Rat) / 10 / 10 ^ P ≤ 1 / 10 ^ P := by
      refine rdiv_le p0 ?_
      rw [fld3 p0]; decide +kernel
    rw [e1]
    grind
theorem ten_lg (h : Int) {w : Rat} (h1 : (h : Rat) ≤ w) (h2 : -(h : Rat) ≤ w) : Lg ((h * 2302 - w) / 1000) (tenZ h) ∧ Ug ((h * 2302 + w) / 1000) (tenZ h) :=
  tenZ_log (L := 2302) (q := 1000) (by decide +kernel) (by decide +kernel) h1 h2 ten_lu.1 (by have := ten_lu.2; rwa [show (2302 : Rat) + 1 = 2303 by decide +kernel])
theorem val_bound (a : A10 xc xe P zc s k) : Lg (-2400000000) (valQ xc xe) ∧ Ug 2400000000 (valQ xc xe) := by
  obtain ⟨h2, h13, hx1, hx2, _⟩ := a
  have hxq : (1 : Rat) ≤ xc := by exact_mod_cast (show (1 : Int) ≤ xc by omega)
  have hx13 : (xc : Rat) ≤ 10 ^ 13 := by
    have := Rat.intCast_le_intCast.mpr (Int.le_of_lt h13)
    rwa [cast_ten] at this
  have w1 : (xe : Rat) ≤ 1000000000 := by
    have := Rat.intCast_le_intCast.mpr hx2
    rwa [show (((1000000000 : Int)) : Rat) = 1000000000 by decide +kernel] at this
  have w2 : -(xe : Rat) ≤ 1000000000 := by
    have := Rat.intCast_le_intCast.mpr (show -xe ≤ 1000000000 by omega)
    rwa [show (((1000000000 : Int)) : Rat) = 1000000000 by decide +kernel, Rat.intCast_neg] at this
  obtain ⟨l, u⟩ := ten_lg xe w1 w2
  rw [valQ_ten]
  constructor
  · refine (Lg.add (Lg.zero.mono Rat.le_refl hxq) l).mono ?_ Rat.le_refl
    grind
  · refine (Ug.add (tenZ_pos xe) ((Ug.pow (by decide +kernel) ten_lu.2 13).mono Rat.le_refl hx13) u).mono ?_ Rat.le_refl
    have : ((13 : Nat) : Rat) = 13 := rfl
    grind
/-- the told logarithm of x -/
theorem D_log (a : A10 xc xe P zc s k) (hD : IsDlogZ ((P : Int) + 4) xc xe D) :
    Lg ((100 * (D : Rat) - 102) / 10 ^ (P + 4)) (valQ xc xe) ∧ Ug ((100 * (D : Rat) + 102) / 10 ^ (P + 4)) (valQ xc xe) := by
  have h := dlF_b (a := xc) (b := xe) (by have := a.1; omega) (by have := a.2.1; omega) a.2.2.1 a.2.2.2.1
  have := a.2.2.2.2.2.2.1
  rcases hD with ⟨_, hD⟩ | ⟨h0, _⟩
  · rw [show ((P : Int) + 4).toNat = P + 4 by omega] at hD
    exact dl_all1 (by omega) (by have := a.1; omega) (by omega) hD
  · omega
theorem D_ok (a : A10 xc xe P zc s k) : DlOkZ ((P : Int) + 4) xc xe := by
  have h := dlF_b (a := xc) (b := xe) (by have := a.1; omega) (by have := a.2.1; omega) a.2.2.1 a.2.2.2.1
  have hp := a.2.2.2.2.2.2.1
  have h1 := a.1
  have h2 := a.2.1
  have hx1 := a.2.2.1
  have hx2 := a.2.2.2.1
  have hnd := nd_pos xc (by omega)
  refine ⟨by omega, ?_, by omega, ?_, ?_, by omega, by omega, by omega⟩
  · have f : Fit 1100 ((10 : Int) ^ 13) := by unfold Fit; decide +kernel
    exact Fit.of_le f (by omega) (by omega)
  · unfold dlF; split <;> omega
  · unfold dlF; split <;> omega
theorem D_rng (a : A10 xc xe P zc s k) (hD : IsDlogZ ((P : Int) + 4) xc xe D) : (89 ≤ D ∨ D ≤ -89) ∧ D ≤ 10 ^ (P + 12) ∧ -(10 ^ (P + 12)) ≤ D := by
  obtain ⟨l, u⟩ := D_log a hD
  obtain ⟨bl, bu⟩ := val_bound a
  have p0 := tenq_pos P
  have p4 := tenq_pos (P + 4)
  have hP1 := ten_ge1 P
  have e4 : (10 : Rat) ^ (P + 4) = 10000 * 10 ^ P := by rw [ten_add, show (10 : Rat) ^ 4 = 10000 by decide +kernel]; grind
  have e12 : (10 : Rat) ^ (P + 12) = 1000000000000 * 10 ^ P := by rw [ten_add, show (10 : Rat) ^ 12 = 1000000000000 by decide +kernel]; grind
  have c1 := l.le bu
  have c2 := bl.le u
  have d1 := Rat.mul_le_mul_of_nonneg_right c1 (Rat.le_of_lt p4)
  have d2 := Rat.mul_le_mul_of_nonneg_right c2 (Rat.le_of_lt p4)
  rw [fld3 p4] at d1 d2
  refine ⟨?_, ?_, ?_⟩
  · have e5 : 9 / 10 / (10 : Rat) ^ P * 10 ^ (P + 4) = 9000 := by
      rw [e4]
      have : (10 : Rat) ^ P ≠ 0 := by grind
      grind
    rcases val_gap a with g | g
    · left
      have d3 := Rat.mul_le_mul_of_nonneg_right (g.le u) (Rat.le_of_lt p4)
      rw [fld3 p4, e5] at d3
      have : (88 : Rat) < D := by grind
      have : (88 : Int) < D := by exact_mod_cast this
      omega
    · right
      have d3 := Rat.mul_le_mul_of_nonneg_right (l.le g) (Rat.le_of_lt p4)
      have e6 : -(9 / 10 / (10 : Rat) ^ P) * 10 ^ (P + 4) = -9000 := by rw [← e5]; grind
      rw [fld3 p4, e6] at d3
      have : (D : Rat) < -88 := by grind
      have : D < -88 := Rat.intCast_lt_intCast.mp (by rw [show (((-88 : Int)) : Rat) = -88 by decide +kernel]; exact this)
      omega
  · have : (D : Rat) ≤ ((10 ^ (P + 12) : Int) : Rat) := by rw [cast_ten]; grind
    exact Rat.intCast_le_intCast.mp this
  · have : ((-(10 ^ (P + 12)) : Int) : Rat) ≤ D := by rw [Rat.intCast_neg, cast_ten]; grind
    exact Rat.intCast_le_intCast.mp this
end
end Mine

end
section
open PySem PySem.W PyProof.Rows
namespace Mine
theorem rabs_mul2 {a b A B : Rat} (h1 : a ≤ A) (h2 : -a ≤ A) (h3 : b ≤ B) (h4 : -b ≤ B) : a * b ≤ A * B ∧ -(a * b) ≤ A * B := by
  have k1 := Rat.mul_nonneg (show 0 ≤ A - a by grind) (show 0 ≤ B + b by grind)
  have k2 := Rat.mul_nonneg (show 0 ≤ A + a by grind) (show 0 ≤ B - b by grind)
  have k3 := Rat.mul_nonneg (show 0 ≤ A - a by grind) (show 0 ≤ B - b by grind)
  have k4 := Rat.mul_nonneg (show 0 ≤ A + a by grind) (show 0 ≤ B + b by grind)
  constructor <;> grind
theorem core_q {y zz L e b u G K : Rat} (hb : 0 < b) (hu : 0 < u) (y1 : y ≤ b) (y2 : -y ≤ b) (g1 : G - y * L ≤ 1 / 2 * u) (g2 : -(1 / 2 * u) ≤ G - y * L)
    (l1 : L - zz ≤ e + 102 / 100 * u / b) (l2 : -(L - zz) ≤ e + 102 / 100 * u / b) (he : b * e ≤ 63 / 1000 * u) (k1 : y * zz - K ≤ 1 / 10 * u) (k2 : -(1 / 10 * u) ≤ y * zz - K) :
    G - K ≤ 1683 / 1000 * u ∧ -(1683 / 1000 * u) ≤ G - K := by
  obtain ⟨m1, m2⟩ := rabs_mul2 y1 y2 l1 l2
  have e1 : b * (e + 102 / 100 * u / b) = b * e + 102 / 100 * u := by
    have : b ≠ 0 := by grind
    grind
  rw [e1] at m1 m2
  have e2 : y * (L - zz) = y * L - y * zz := by grind
  rw [e2] at m1 m2
  generalize y * L = Y1 at *
  generalize y * zz = Y2 at *
  generalize b * e = W at *
  constructor <;> grind
section
variable {xc xe zc s D yc : Int} {P k : Nat}
theorem fdiv_near {N y z : Int} (hz : z ≠ 0) (hy : y = N.fdiv z) : ((y * z - N).natAbs : Int) < z.natAbs := by
  rcases Int.lt_or_le 0 z with g | g
  · rw [Int.fdiv_eq_ediv_of_nonneg _ (Int.le_of_lt g)] at hy
    have h1 := Int.mul_ediv_add_emod N z
    have h2 := Int.emod_nonneg N hz
    have h3 := Int.emod_lt_of_pos N g
    rw [← hy, Int.mul_comm] at h1
    clear hy hz
    omega
  · have e : N.fdiv z = (-N).fdiv (-z) := by rw [Int.neg_fdiv_neg]
    have g2 : 0 < -z := by omega
    rw [e, Int.fdiv_eq_ediv_of_nonneg _ (Int.le_of_lt g2)] at hy
    have h1 := Int.mul_ediv_add_emod (-N) (-z)
    have h2 := Int.emod_nonneg (-N) (Int.ne_of_gt g2)
    have h3 := Int.emod_lt_of_pos (-N) g2
    rw [← hy, Int.neg_mul, Int.mul_comm] at h1
    clear hy hz e
    omega
theorem near_abs {a b : Int} {Z : Nat} (h : ((a - b).natAbs : Int) < Z) : (b.natAbs : Int) - Z < a.natAbs ∧ (a.natAbs : Int) < b.natAbs + Z := by omega
theorem near_two {a K : Int} {Z : Nat} (h : (a.natAbs : Int) < Z) (hK : (Z : Int) < K) : a ≤ K ∧ -K ≤ a := by omega
theorem abs_or {d : Int} (h : 89 ≤ d ∨ d ≤ -89) : 89 ≤ (d.natAbs : Int) := by omega
theorem abs_le2 {d W : Int} (h : d ≤ W) (h2 : -W ≤ d) : (d.natAbs : Int) ≤ W := by omega
theorem yc_lo {y Z d K : Int} (hd : 89 ≤ d) (hZ : 0 ≤ Z) (hK : Z < K) (h : d * K - Z < y * Z) : 88 ≤ y := by
  rcases Int.lt_or_le y 88 with g | g
  · exfalso
    have q1 := Int.mul_le_mul_of_nonneg_right (show y ≤ 87 from Int.le_of_lt_add_one g) hZ
    have q2 := Int.mul_le_mul_of_nonneg_right hd (Int.le_trans hZ (Int.le_of_lt hK))
    generalize y * Z = u at *
    generalize d * K = v at *
    omega
  · exact g
theorem yc_hi {y Z d K W : Int} (hd : d ≤ W) (hW : 0 < W) (hZ : 0 < Z) (hK0 : 0 ≤ K) (hK : K ≤ 10 * Z) (h : y * Z < d * K + Z) : y < 100 * W := by
  rcases Int.lt_or_le y (100 * W) with g | g
  · exact g
  · exfalso
    have q1 := Int.mul_le_mul_of_nonneg_right g (Int.le_of_lt hZ)
    have q2 := Int.mul_le_mul_of_nonneg_right hd hK0
    have q3 := Int.mul_le_mul_of_nonneg_left hK (Int.le_of_lt hW)
    have q4 := Int.mul_le_mul_of_nonneg_right (show 1 ≤ W from hW) (Int.le_of_lt hZ)
    rw [Int.mul_assoc] at q1
    rw [Int.mul_left_comm] at q3
    generalize y * Z = u at *
    generalize d * K = v at *
    generalize W * Z = w at *
    generalize W * K = x at *
    clear g hd hW hK hK0
    omega
theorem zc_dig (a : A10 xc xe P zc s k) : (10 : Int) ^ k ≤ 10 * (zc.natAbs : Int) ∧ (zc.natAbs : Int) < 10 ^ k := by
  have hz0 := a.2.2.2.2.2.2.2.1
  have hk := a.2.2.2.2.2.2.2.2.1
  clear a
  have hp : (1 : Int) ≤ (zc.natAbs : Int) := by omega
  obtain ⟨z1, z2⟩ := nd_lo hp
  have hk1 := nd_pos (zc.natAbs : Int) (Int.natCast_nonneg _)
  rw [hk] at z1 z2 hk1
  refine ⟨?_, z2⟩
  have ek : (10 : Int) ^ k = 10 * 10 ^ (k - 1) := by rw [← Int.pow_succ']; congr 1; omega
  rw [ek]
  exact Int.mul_le_mul_of_nonneg_left z1 (by decide)
theorem yc_facts10 (a : A10 xc xe P zc s k) (hD : IsDlogZ ((P : Int) + 4) xc xe D) (hy : yc = (D * 10 ^ k).fdiv zc) :
    88 ≤ yc.natAbs ∧ (yc.natAbs : Int) < 10 ^ (P + 14) ∧ yc * zc - D * 10 ^ k ≤ 10 ^ k ∧ -(10 ^ k) ≤ yc * zc - D * 10 ^ k := by
  obtain ⟨d1, d2, d3⟩ := D_rng a hD
  obtain ⟨z1, z2⟩ := zc_dig a
  have hN := fdiv_near a.2.2.2.2.2.2.2.1 hy
  have hZ0 : (0 : Int) < (zc.natAbs : Int) := by
    have := ten_k' k
    clear hN d1 d2 d3 hy hD a
    omega
  clear a hD hy
  have p1 : ((yc * zc).natAbs : Int) = (yc.natAbs : Int) * zc.natAbs := by rw [Int.natAbs_mul, Int.natCast_mul]
  have p2 : ((D * 10 ^ k).natAbs : Int) = (D.natAbs : Int) * 10 ^ k := by
    rw [Int.natAbs_mul, Int.natCast_mul]; congr 1
  have n0 := near_abs hN
  rw [p1, p2] at n0
  have e14 : (10 : Int) ^ (P + 14) = 100 * 10 ^ (P + 12) := by rw [Int.pow_succ', Int.pow_succ', ← Int.mul_assoc]; rfl
  rw [e14]
  have b1 := yc_lo (d := (D.natAbs : Int)) (abs_or d1) (Int.natCast_nonneg _) z2 n0.1
  exact ⟨Int.ofNat_le.mp b1, yc_hi (abs_le2 d2 d3) (ten_k' _) hZ0 (Int.le_of_lt (ten_k' k)) z1 n0.2, (near_two hN z2).1, (near_two hN z2).2⟩
/-- y * z against the told logarithm -/
theorem yz (a : A10 xc xe P zc s k) (hD : IsDlogZ ((P : Int) + 4) xc xe D) (hy : yc = (D * 10 ^ k).fdiv zc) :
    let u := tenZ (-((P : Int) + 1))
    (yc : Rat) * tenZ (-(P : Int) - 3 - s) * (zc * tenZ (s + 1 - k)) - D * (1 / 10 * u) ≤ 1 / 10 * u ∧ -(1 / 10 * u) ≤ (yc : Rat) * tenZ (-(P : Int) - 3 - s) * (zc * tenZ (s + 1 - k)) - D * (1 / 10 * u) := by
  intro u
  obtain ⟨_, _, h1, h2⟩ := yc_facts10 a hD hy
  have hu : 0 < u := tenZ_pos _
  have e1 : tenZ (-(P : Int) - 3 - s) * tenZ (s + 1 - k) = 1 / 10 * u * tenZ (-(k : Int)) := by
    rw [← tenZ_add, show -(P : Int) - 3 - s + (s + 1 - k) = -1 + (-((P : Int) + 1) + -(k : Int)) by omega, tenZ_add, tenZ_add, show tenZ (-1) = 1 / 10 by decide +kernel]
    show 1 / 10 * (u * tenZ (-(k : Int))) = _
    grind
  have e2 : tenZ (-(k : Int)) * 10 ^ k = 1 := by
    rw [← tenZ_nat, ← tenZ_add, show -(k : Int) + k = 0 by omega]; decide +kernel
  have q1 := Rat.intCast_le_intCast.mpr h1
  have q2 := Rat.intCast_le_intCast.mpr h2
  rw [Rat.intCast_neg, cast_ten, Rat.intCast_sub, Rat.intCast_mul, Rat.intCast_mul, cast_ten] at q2
  rw [cast_ten, Rat.intCast_sub, Rat.intCast_mul, Rat.intCast_mul, cast_ten] at q1
  have e3 : (yc : Rat) * tenZ (-(P : Int) - 3 - s) * (zc * tenZ (s + 1 - k)) - D * (1 / 10 * u) = (yc * zc - D * 10 ^ k) * (1 / 10 * u * tenZ (-(k : Int))) := by
    have : (yc : Rat) * tenZ (-(P : Int) - 3 - s) * (zc * tenZ (s + 1 - k)) = yc * zc * (tenZ (-(P : Int) - 3 - s) * tenZ (s + 1 - k)) := by grind
    rw [this, e1]
    generalize tenZ (-(k : Int)) = T at *
    generalize (10 : Rat) ^ k = X at *
    grind
  rw [e3]
  have ht : 0 ≤ 1 / 10 * u * tenZ (-(k : Int)) := Rat.mul_nonneg (by grind) (Rat.le_of_lt (tenZ_pos _))
  have m1 := Rat.mul_le_mul_of_nonneg_right q1 ht
  have m2 := Rat.mul_le_mul_of_nonneg_right q2 ht
  have e4 : (10 : Rat) ^ k * (1 / 10 * u * tenZ (-(k : Int))) = 1 / 10 * u := by
    generalize tenZ (-(k : Int)) = T at *
    generalize (10 : Rat) ^ k = X at *
    grind
  have e5 : -(10 : Rat) ^ k * (1 / 10 * u * tenZ (-(k : Int))) = -(1 / 10 * u) := by rw [← e4]; grind
  rw [e4] at m1
  rw [e5] at m2
  exact ⟨m1, m2⟩
/-- the base against z: b is e to the z but for little -/
theorem base_log {z T d Q : Rat} (hT : 0 < T) (hQ : 100 ≤ Q) (hd : 10 * Q ≤ d) (l : Lg z ((d + 62 / 100) * T)) (u : Ug z ((d - 62 / 100) * T)) :
    Lg (z - 63 / 1000 / Q) (d * T) ∧ Ug (z + 63 / 1000 / Q) (d * T) := by
  have p1 : 0 < d + 62 / 100 := by grind
  have p2 : 0 < d - 62 / 100 := by grind
  have pd : 0 < d := by grind
  have hQ0 : 0 < Q := by grind
  constructor
  · have b1 := Lg.basic (t := (d + 62 / 100) / d) (q := d / (d + 62 / 100)) (rdiv_pos p1 pd) (by
      rw [rdiv_mul p1]
      have : d / d = 1 := by
        have : d ≠ 0 := by grind
        grind
      grind)
    have l1 := Lg.add l b1
    have e1 : (d + 62 / 100) * T * (d / (d + 62 / 100)) = d * T := by
      have : d + 62 / 100 ≠ 0 := by grind
      grind
    rw [e1] at l1
    refine l1.mono ?_ Rat.le_refl
    have e2 : 1 - (d + 62 / 100) / d = -(62 / 100 / d) := by
      have : d ≠ 0 := by grind
      grind
    have e3 : 62 / 100 / d ≤ 63 / 1000 / Q := by
      refine rdiv_le pd ?_
      have : 63 / 1000 / Q * d = 63 / 1000 * d / Q := by grind
      rw [this]
      exact le_rdiv hQ0 (by grind)
    rw [e2]; grind
  · have hq : 0 < d / (d - 62 / 100) := rdiv_pos pd p2
    have u1 := Ug.add hq u (Ug.basic hq)
    have e1 : (d - 62 / 100) * T * (d / (d - 62 / 100)) = d * T := by
      have : d - 62 / 100 ≠ 0 := by grind
      grind
    rw [e1] at u1
    refine u1.mono ?_ Rat.le_refl
    have e2 : d / (d - 62 / 100) - 1 = 62 / 100 / (d - 62 / 100) := by
      have : d - 62 / 100 ≠ 0 := by grind
      grind
    have e3 : 62 / 100 / (d - 62 / 100) ≤ 63 / 1000 / Q := by
      refine rdiv_le p2 ?_
      have : 63 / 1000 / Q * (d - 62 / 100) = 63 / 1000 * (d - 62 / 100) / Q := by grind
      rw [this]
      exact le_rdiv hQ0 (by grind)
    rw [e2]; grind
end
end Mine

end
section
open PySem PySem.W PyProof.Rows
namespace Mine
section
variable {xc xe zc s D yc bc be l : Int} {P k j A : Nat}
/-- what is known ahead of _dpower -/
def B10 (xc xe : Int) (P : Nat) (zc s : Int) (k : Nat) (D yc : Int) (j A : Nat) : Prop :=
  A10 xc xe P zc s k ∧ IsDlogZ ((P : Int) + 4) xc xe D ∧ yc = (D * 10 ^ k).fdiv zc ∧ nd (yc.natAbs : Int) = j ∧ (A : Int) = max 0 ((j : Int) - P - 3 - s)
theorem zz_rng (a : A10 xc xe P zc s k) : ((zc : Rat) * tenZ (s + 1 - k) ≤ tenZ (s + 1) ∧ -((zc : Rat) * tenZ (s + 1 - k)) ≤ tenZ (s + 1)) ∧ (tenZ s ≤ (zc : Rat) * tenZ (s + 1 - k) ∨ (zc : Rat) * tenZ (s + 1 - k) ≤ -tenZ s) := by
  have hz0 := a.2.2.2.2.2.2.2.1
  have hk := a.2.2.2.2.2.2.2.2.1
  obtain ⟨z1, z2⟩ := nd_lo (c := (zc.natAbs : Int)) (by omega)
  have hk1 := nd_pos (zc.natAbs : Int) (by omega)
  rw [hk] at z1 z2 hk1
  have ht := tenZ_pos (s + 1 - k)
  have e1 : (10 : Rat) ^ k * tenZ (s + 1 - k) = tenZ (s + 1) := by
    rw [← tenZ_nat, ← tenZ_add]; congr 1; omega
  have e2 : (10 : Rat) ^ (k - 1) * tenZ (s + 1 - k) = tenZ s := by
    rw [← tenZ_nat, ← tenZ_add]; congr 1; omega
  have q1 := Rat.intCast_le_intCast.mpr (show zc ≤ 10 ^ k by omega)
  have q2 := Rat.intCast_le_intCast.mpr (show -zc ≤ 10 ^ k by omega)
  rw [cast_ten] at q1
  rw [Rat.intCast_neg, cast_ten] at q2
  refine ⟨⟨?_, ?_⟩, ?_⟩
  · rw [← e1]; exact Rat.mul_le_mul_of_nonneg_right q1 (Rat.le_of_lt ht)
  · have := Rat.mul_le_mul_of_nonneg_right q2 (Rat.le_of_lt ht)
    rw [← e1]; grind
  · rcases Int.lt_or_le 0 zc with g | g
    · left
      have q3 := Rat.intCast_le_intCast.mpr (show 10 ^ (k - 1) ≤ zc by omega)
      rw [cast_ten] at q3
      rw [← e2]; exact Rat.mul_le_mul_of_nonneg_right q3 (Rat.le_of_lt ht)
    · right
      have q3 := Rat.intCast_le_intCast.mpr (show zc ≤ -(10 ^ (k - 1)) by omega)
      rw [Rat.intCast_neg, cast_ten] at q3
      have := Rat.mul_le_mul_of_nonneg_right q3 (Rat.le_of_lt ht)
      rw [← e2]; grind
theorem j_rng (h : B10 xc xe P zc s k D yc j A) : 2 ≤ j ∧ j ≤ P + 14 := by
  obtain ⟨a, hD, hy, hj, _⟩ := h
  obtain ⟨y1, y2, _⟩ := yc_facts10 a hD hy
  constructor
  · rw [← hj]
    have := nd_mono (x := 10) (y := (yc.natAbs : Int)) (by decide) (by omega)
    have e : nd 10 = 2 := by decide +kernel
    omega
  · rw [← hj]; exact nd_small (by omega) (by omega) y2
theorem dxE10 (h : B10 xc xe P zc s k D yc j A) : P + 5 + A + dxE zc (s + 1 - k) ≤ 46 := by
  have hj := j_rng h
  obtain ⟨a, _, _, _, hA⟩ := h
  have hk := a.2.2.2.2.2.2.2.2.1
  have hz0 := a.2.2.2.2.2.2.2.1
  have hP := a.2.2.2.2.2.2.1
  have hs1 := a.2.2.2.2.2.2.2.2.2.2.1
  have hs2 := a.2.2.2.2.2.2.2.2.2.2.2
  clear a
  have hn : nd zc ≤ k + 1 := nd_abs_le (by have := nd_pos (zc.natAbs : Int) (by omega); omega) (by rw [← hk]; exact (nd_lo (by omega)).2)
  unfold dxE
  clear hk hz0
  omega
theorem fit_z10 (a : A10 xc xe P zc s k) : Fit 1100 zc := by
  have hk := a.2.2.2.2.2.2.2.2.1
  have hz0 := a.2.2.2.2.2.2.2.1
  have hk13 := a.2.2.2.2.2.2.2.2.2.1
  have h := (nd_lo (c := (zc.natAbs : Int)) (by omega)).2
  rw [hk] at h
  have := ipow10_le hk13
  have f : Fit 1100 ((10 : Int) ^ 13) := by unfold Fit; decide +kernel
  unfold Fit at *
  omega
/-- the base -/
theorem base10 (h : B10 xc xe P zc s k D yc j A) (hb : IsDexp (P + 5 + A) zc (s + 1 - k) bc be) :
    10 ^ (P + 2 + A) ≤ bc ∧ bc ≤ 10 ^ (P + 3 + A) ∧ Lg ((zc : Rat) * tenZ (s + 1 - k) - 63 / 1000 / 10 ^ (P + 1 + A)) (valQ bc be) ∧ Ug ((zc : Rat) * tenZ (s + 1 - k) + 63 / 1000 / 10 ^ (P + 1 + A)) (valQ bc be) := by
  have hx := dxE10 h
  have hP := (xc_P h.1).1
  obtain ⟨h1, h2, l, u⟩ := dx_core (c := zc) (e := s + 1 - k) (p := P + 3 + A) (by omega) (by omega) (by rw [show P + 3 + A + 2 = P + 5 + A by omega]; exact hb)
  rw [show P + 3 + A - 1 = P + 2 + A by omega] at h1
  have q1 := Rat.intCast_le_intCast.mpr h1
  rw [cast_ten, show P + 2 + A = 1 + (P + 1 + A) by omega, ten_add, show (10 : Rat) ^ 1 = 10 by decide +kernel] at q1
  have hQ := qpow10_le (show 2 ≤ P + 1 + A by omega)
  rw [show (10 : Rat) ^ 2 = 100 by decide +kernel] at hQ
  obtain ⟨a1, a2⟩ := base_log (tenZ_pos be) hQ q1 l u
  rw [valQ_ten]
  exact ⟨h1, h2, a1, a2⟩
/-- f of the base's _dlog against z -/
theorem f_rng (h : B10 xc xe P zc s k D yc j A) (hb : IsDexp (P + 5 + A) zc (s + 1 - k) bc be) {f : Int} (hf : dlF bc be = f) :
    2301 * (f.natAbs : Rat) ≤ 1000 * tenZ (s + 1) + 2500 ∧ 1000 * tenZ s ≤ 2303 * (f.natAbs : Rat) + 2500 := by
  obtain ⟨b1, b2, bl, bu⟩ := base10 h hb
  obtain ⟨⟨z1, z2⟩, z3⟩ := zz_rng h.1
  have hQ := qpow10_le (show 2 ≤ P + 1 + A by have := (xc_P h.1).1; omega)
  rw [show (10 : Rat) ^ 2 = 100 by decide +kernel] at hQ
  have hb0 := ten_k' (P + 2 + A)
  obtain ⟨t, ev, ht, tl, tu⟩ := mant_lu (c := bc) (e := be) (by omega) hf
  have w1 : (f : Rat) ≤ (f.natAbs : Rat) := by
    have := Rat.intCast_le_intCast.mpr (show f ≤ (f.natAbs : Int) by omega)
    rwa [Rat.intCast_natCast] at this
  have w2 : -(f : Rat) ≤ (f.natAbs : Rat) := by
    have := Rat.intCast_le_intCast.mpr (show -f ≤ (f.natAbs : Int) by omega)
    rwa [Rat.intCast_neg, Rat.intCast_natCast] at this
  have w3 : (f : Rat) = (f.natAbs : Rat) ∨ (f : Rat) = -(f.natAbs : Rat) := by
    rcases Int.lt_or_le f 0 with g | g
    · right
      have : ((-f : Int) : Rat) = ((f.natAbs : Int) : Rat) := by congr 1; omega
      rw [Rat.intCast_neg, Rat.intCast_natCast] at this
      grind
    · left
      have : ((f : Int) : Rat) = ((f.natAbs : Int) : Rat) := by congr 1; omega
      rwa [Rat.intCast_natCast] at this
  obtain ⟨fl, fu⟩ := ten_lg f w1 w2
  have l2 := Lg.add tl fl
  have u2 := Ug.add (tenZ_pos f) tu fu
  rw [← ev] at l2 u2
  have c1 := l2.le bu
  have c2 := bl.le u2
  have hi : 63 / 1000 / (10 : Rat) ^ (P + 1 + A) ≤ 1 / 1000 := by
    refine rdiv_le (by grind) ?_
    grind
  have hF : (0 : Rat) ≤ (f.natAbs : Rat) := by exact_mod_cast Nat.zero_le _
  have ts := tenZ_pos s
  generalize (63 / 1000 / (10 : Rat) ^ (P + 1 + A)) = e at *
  generalize (zc : Rat) * tenZ (s + 1 - k) = z at *
  generalize tenZ (s + 1) = S1 at *
  generalize tenZ s = S0 at *
  generalize (f.natAbs : Rat) = F at *
  generalize (f : Rat) = f' at *
  clear l2 u2 fl fu bl bu tl tu
  constructor
  · rcases w3 with w | w <;> rw [w] at c1 c2 <;> grind
  · rcases w3 with w | w <;> rw [w] at c1 c2 <;> rcases z3 with z | z <;> grind
theorem ok10 (h : B10 xc xe P zc s k D yc j A) (hb : IsDexp (P + 5 + A) zc (s + 1 - k) bc be) : DlOkZ ((j : Int) - s) bc be := by
  obtain ⟨j1, j2⟩ := j_rng h
  obtain ⟨b1, b2, _, _⟩ := base10 h hb
  obtain ⟨f1, f2⟩ := f_rng h hb rfl
  have hx := dxE10 h
  have hb0 := ten_k' (P + 2 + A)
  have hP := h.1.2.2.2.2.2.2.1
  have hs1 := h.1.2.2.2.2.2.2.2.2.2.2.1
  have hs2 := h.1.2.2.2.2.2.2.2.2.2.2.2
  have hA : P + 3 + A ≤ 46 := by clear f1 f2 b1 b2 hb0 hs1 hs2 h hb; omega
  clear h hb hx
  have hbc : 1 ≤ bc := Int.le_trans (show (1 : Int) ≤ 10 ^ (P + 2 + A) from hb0) b1
  have hnd : nd bc ≤ P + 3 + A + 1 := nd_small (Int.le_trans (by decide) hbc) (Nat.succ_pos _) (by
    rw [Int.pow_succ]
    have := ten_k' (P + 3 + A)
    clear f1 f2 b1 hb0 hbc hs1 hs2 hP hA j1 j2
    omega)
  clear b1 hb0
  unfold DlOkZ
  generalize hf : dlF bc be = f at *
  have hfb : (f.natAbs : Int) < 10 ^ (max s 0 + 1).toNat := by
    have : (f.natAbs : Rat) < ((10 ^ (max s 0 + 1).toNat : Int) : Rat) := by
      rw [cast_ten]
      rcases Int.lt_or_le s 0 with g | g
      · rw [show (max s 0 + 1).toNat = 1 by omega]
        have := tenZ_le (show s + 1 ≤ 0 by omega)
        rw [show tenZ 0 = 1 by decide +kernel] at this
        rw [show (10 : Rat) ^ 1 = 10 by decide +kernel]
        grind
      · have e : tenZ (s + 1) = 10 ^ (max s 0 + 1).toNat := by
          rw [← tenZ_nat]; congr 1; omega
        rw [e] at f1
        have := qpow10_le (show 1 ≤ (max s 0 + 1).toNat by omega)
        rw [show (10 : Rat) ^ 1 = 10 by decide +kernel] at this
        grind
    have h2 : (((f.natAbs : Int)) : Rat) < ((10 ^ (max s 0 + 1).toNat : Int) : Rat) := by rwa [Rat.intCast_natCast]
    exact Rat.intCast_lt_intCast.mp h2
  have hex : nd (f.natAbs : Int) ≤ (max s 0 + 1).toNat := nd_small (by omega) (by omega) hfb
  have hf13 := ipow10_le (show (max s 0 + 1).toNat ≤ 13 by omega)
  have hp1 := nd_pos (f.natAbs : Int) (by omega)
  have hs' : (max s 0 + 1).toNat ≤ 13 := by clear hfb hex hp1 hf13 hnd hA b2 hbc j1 j2 hP; omega
  have n46 : (j : Int) - s ≤ 31 + 12 := by clear hfb hex hp1 hf13 hnd hA b2 hbc j1 hs'; omega
  have x46 : (j : Int) - s + (nd (f.natAbs : Int) - 1 : Nat) ≤ 46 := by clear hfb hf13 hnd hA b2 hbc j1 hs' n46; omega
  have f16 : -10000000000000000 ≤ f ∧ f ≤ 10000000000000000 := by clear hex hp1 hnd hA b2 hbc j1 hs' n46 x46; omega
  refine ⟨Int.le_trans n46 (by decide), ?_, hbc, f16.1, f16.2, x46, Nat.le_trans hnd (by clear hfb hex hp1 hf13 hnd b2 hbc j1 hs' n46 x46; omega), ?_⟩
  · have f : Fit 1100 ((10 : Int) ^ 46) := by unfold Fit; decide +kernel
    have := ipow10_le hA
    exact Fit.of_le f (Int.le_trans (by decide) hbc) (Int.le_trans b2 this)
  · intro hn
    have lo : 10 ^ (s - 1).toNat ≤ (f.natAbs : Int) := by
      have e : tenZ s = 10 * 10 ^ (s - 1).toNat := by
        rw [show s = 1 + (((s - 1).toNat : Nat) : Int) by omega, tenZ_add, tenZ_nat, show tenZ 1 = 10 by decide +kernel]
        congr 2; omega
      have q := qpow10_le (show 1 ≤ (s - 1).toNat by omega)
      rw [show (10 : Rat) ^ 1 = 10 by decide +kernel] at q
      rw [e] at f2
      have : (((10 ^ (s - 1).toNat : Int)) : Rat) ≤ ((f.natAbs : Int) : Rat) := by
        rw [cast_ten, Rat.intCast_natCast]
        generalize (10 : Rat) ^ (s - 1).toNat = X at *
        generalize (f.natAbs : Rat) = F at *
        grind
      exact Rat.intCast_le_intCast.mp this
    have hq := ten_k' (s - 1).toNat
    have e9 : nd (10 ^ (s - 1).toNat : Int) = (s - 1).toNat + 1 := nd_eq (Int.le_refl _) (by rw [Int.pow_succ]; omega)
    have := nd_mono (by omega) lo
    constructor
    · intro h0
      have e0 : (f.natAbs : Int) = 0 := by omega
      omega
    · omega
end
end Mine

end
section
open PySem PySem.W PyProof.Rows
namespace Mine
section
variable {xc xe zc s D yc bc be l : Int} {P k j A : Nat}
theorem logG (h : B10 xc xe P zc s k D yc j A) (hb : IsDexp (P + 5 + A) zc (s + 1 - k) bc be) (hl : IsDlogZ ((j : Int) - s) bc be l) :
    let u := tenZ (-((P : Int) + 1))
    let G := ((divN (l * yc) (10 ^ j) : Int) : Rat) * u
    Lg (G - 9 / 5 * u) (valQ xc xe) ∧ Ug (G + 9 / 5 * u) (valQ xc xe) := by
  intro u G
  have hu : 0 < u := tenZ_pos _
  obtain ⟨_, _, bl, bu⟩ := base10 h hb
  obtain ⟨ll, lu⟩ := dl_Z (ok10 h hb) hl
  obtain ⟨a, hD, hy, hj, hA⟩ := h
  obtain ⟨y1, y2⟩ := yz a hD hy
  obtain ⟨dl, du⟩ := D_log a hD
  obtain ⟨B, hB⟩ : ∃ B : Int, B = (j : Int) - P - 3 - s := ⟨_, rfl⟩
  have hb10 := tenZ_pos B
  have hye := tenZ_pos (-(P : Int) - 3 - s)
  -- y against 10^B
  have eyB : (10 : Rat) ^ j * tenZ (-(P : Int) - 3 - s) = tenZ B := by
    rw [← tenZ_nat, ← tenZ_add]; congr 1; omega
  have hyj := (nd_lo (c := (yc.natAbs : Int)) (by have := (yc_facts10 a hD hy).1; omega)).2
  rw [hj] at hyj
  have q1 := Rat.intCast_le_intCast.mpr (show yc ≤ 10 ^ j by omega)
  have q2 := Rat.intCast_le_intCast.mpr (show -yc ≤ 10 ^ j by omega)
  rw [cast_ten] at q1
  rw [Rat.intCast_neg, cast_ten] at q2
  have yb1 : (yc : Rat) * tenZ (-(P : Int) - 3 - s) ≤ tenZ B := by
    rw [← eyB]; exact Rat.mul_le_mul_of_nonneg_right q1 (Rat.le_of_lt hye)
  have yb2 : -((yc : Rat) * tenZ (-(P : Int) - 3 - s)) ≤ tenZ B := by
    have := Rat.mul_le_mul_of_nonneg_right q2 (Rat.le_of_lt hye)
    rw [← eyB]; grind
  -- the told logarithm of the base
  have en : tenZ (-((j : Int) - s)) * tenZ B = u / 100 := by
    rw [← tenZ_add, show -((j : Int) - s) + B = -((P : Int) + 1) + -2 by omega, tenZ_add, show tenZ (-2) = 1 / 100 by decide +kernel]
    show u * (1 / 100) = u / 100
    grind
  have c1 := ll.le bu
  have c2 := bl.le lu
  have eT : tenZ (-((j : Int) - s)) = u / 100 / tenZ B := by
    have : tenZ B ≠ 0 := by grind
    grind
  rw [eT] at c1 c2
  have e1 : (100 * (l : Rat) - 102) * (u / 100 / tenZ B) = l * u / tenZ B - 102 / 100 * u / tenZ B := by grind
  have e2 : (100 * (l : Rat) + 102) * (u / 100 / tenZ B) = l * u / tenZ B + 102 / 100 * u / tenZ B := by grind
  rw [e1] at c1
  rw [e2] at c2
  -- rounding
  have hj0 := ten_k' j
  have dr := divN_rat (l * yc) hj0
  rw [cast_ten, Rat.intCast_mul] at dr
  have ey : (yc : Rat) * tenZ (-(P : Int) - 3 - s) * (l * u / tenZ B) = l * yc / 10 ^ j * u := by
    have pj := tenq_pos j
    have a1 : tenZ B ≠ 0 := by grind
    have a2 : (10 : Rat) ^ j ≠ 0 := by grind
    rw [← eyB] at a1 ⊢
    generalize tenZ (-(P : Int) - 3 - s) = T at *
    generalize (10 : Rat) ^ j = X at *
    clear bl bu ll lu dl du
    have a3 : T ≠ 0 := by grind
    grind
  have g1 : G - (yc : Rat) * tenZ (-(P : Int) - 3 - s) * (l * u / tenZ B) ≤ 1 / 2 * u := by
    rw [ey]
    have := Rat.mul_le_mul_of_nonneg_right dr.2 (Rat.le_of_lt hu)
    show ((divN (l * yc) (10 ^ j) : Int) : Rat) * u - _ ≤ _
    grind
  have g2 : -(1 / 2 * u) ≤ G - (yc : Rat) * tenZ (-(P : Int) - 3 - s) * (l * u / tenZ B) := by
    rw [ey]
    have := Rat.mul_le_mul_of_nonneg_right dr.1 (Rat.le_of_lt hu)
    show _ ≤ ((divN (l * yc) (10 ^ j) : Int) : Rat) * u - _
    grind
  -- the base's own error
  have he : tenZ B * (63 / 1000 / 10 ^ (P + 1 + A)) ≤ 63 / 1000 * u := by
    have t1 : tenZ B ≤ 10 ^ A := by rw [← tenZ_nat]; exact tenZ_le (by omega)
    have t2 : u * 10 ^ (P + 1) = 1 := by
      show tenZ (-((P : Int) + 1)) * _ = 1
      rw [← tenZ_nat, ← tenZ_add, show -((P : Int) + 1) + ((P + 1 : Nat) : Int) = 0 by omega]; decide +kernel
    have pA := tenq_pos A
    have pP := tenq_pos (P + 1)
    have e5 : tenZ B * (63 / 1000 / 10 ^ (P + 1 + A)) = 63 / 1000 * tenZ B / 10 ^ (P + 1 + A) := by grind
    rw [e5]
    refine rdiv_le (tenq_pos _) ?_
    rw [ten_add]
    have : 63 / 1000 * u * (10 ^ (P + 1) * 10 ^ A) = 63 / 1000 * (u * 10 ^ (P + 1)) * 10 ^ A := by grind
    rw [this, t2]
    grind
  obtain ⟨k1, k2⟩ := core_q hb10 hu yb1 yb2 g1 g2 (show (l : Rat) * u / tenZ B - (zc : Rat) * tenZ (s + 1 - k) ≤ 63 / 1000 / 10 ^ (P + 1 + A) + 102 / 100 * u / tenZ B by grind) (show -((l : Rat) * u / tenZ B - (zc : Rat) * tenZ (s + 1 - k)) ≤ 63 / 1000 / 10 ^ (P + 1 + A) + 102 / 100 * u / tenZ B by grind) he y1 y2
  have e4 : ∀ x : Rat, (100 * (D : Rat) + x) / 10 ^ (P + 4) = D * (1 / 10 * u) + x * (1 / 1000 * u) := by
    intro x
    have t2 : u * 10 ^ (P + 4) = 1000 := by
      show tenZ (-((P : Int) + 1)) * _ = 1000
      rw [← tenZ_nat, ← tenZ_add, show -((P : Int) + 1) + ((P + 4 : Nat) : Int) = 3 by omega]; decide +kernel
    have p4 := tenq_pos (P + 4)
    have : (10 : Rat) ^ (P + 4) ≠ 0 := by grind
    have e7 : (D : Rat) * (1 / 10 * u) + x * (1 / 1000 * u) = (100 * D + x) * (u * 10 ^ (P + 4)) / 1000 / 10 ^ (P + 4) := by grind
    rw [e7, t2]; grind
  constructor
  · refine dl.mono ?_ Rat.le_refl
    have := e4 (-102)
    rw [show (100 * (D : Rat) - 102) = 100 * D + -102 by grind, this]
    grind
  · refine du.mono ?_ Rat.le_refl
    rw [e4 102]
    grind
theorem u_facts : tenZ (-((P : Int) + 1)) * 10 ^ P = 1 / 10 ∧ tenZ (-((P : Int) + 1)) * 10 ^ (P + 1) = 1 := by
  constructor
  · rw [← tenZ_nat, ← tenZ_add, show -((P : Int) + 1) + (P : Int) = -1 by omega]; decide +kernel
  · rw [← tenZ_nat, ← tenZ_add, show -((P : Int) + 1) + ((P + 1 : Nat) : Int) = 0 by omega]; decide +kernel
theorem pc10 (h : B10 xc xe P zc s k D yc j A) (hb : IsDexp (P + 5 + A) zc (s + 1 - k) bc be) (hl : IsDlogZ ((j : Int) - s) bc be l) :
    divN (l * yc) (10 ^ j) ≠ 0 ∧ divN (l * yc) (10 ^ j) ≤ 10 ^ (P + 12) ∧ -(10 ^ (P + 12)) ≤ divN (l * yc) (10 ^ j) := by
  obtain ⟨gl, gu⟩ := logG h hb hl
  obtain ⟨u1, u2⟩ := u_facts (P := P)
  have hu := tenZ_pos (-((P : Int) + 1))
  have vg := val_gap h.1
  obtain ⟨vl, vu⟩ := val_bound h.1
  generalize divN (l * yc) (10 ^ j) = Z at *
  generalize tenZ (-((P : Int) + 1)) = u at *
  have p0 := tenq_pos P
  have hP1 := ten_ge1 P
  refine ⟨?_, ?_, ?_⟩
  · intro h0
    rw [h0, show (((0 : Int)) : Rat) = 0 from rfl, Rat.zero_mul] at gl gu
    have e9 : 9 / 10 / (10 : Rat) ^ P = 9 * u := by
      have : (10 : Rat) ^ P ≠ 0 := by grind
      grind
    rw [e9] at vg
    rcases vg with g | g
    · have := g.le gu; grind
    · have := gl.le g; grind
  · have c := gl.le vu
    have d := Rat.mul_le_mul_of_nonneg_right c (Rat.le_of_lt (tenq_pos (P + 1)))
    have e : ((Z : Rat) * u - 9 / 5 * u) * 10 ^ (P + 1) = Z - 9 / 5 := by
      have : ((Z : Rat) * u - 9 / 5 * u) * 10 ^ (P + 1) = (Z - 9 / 5) * (u * 10 ^ (P + 1)) := by grind
      rw [this, u2]; grind
    rw [e, ten_add, show (10 : Rat) ^ 1 = 10 by decide +kernel] at d
    have : (Z : Rat) ≤ ((10 ^ (P + 12) : Int) : Rat) := by
      rw [cast_ten, ten_add, show (10 : Rat) ^ 12 = 1000000000000 by decide +kernel]; grind
    exact Rat.intCast_le_intCast.mp this
  · have c := vl.le gu
    have d := Rat.mul_le_mul_of_nonneg_right c (Rat.le_of_lt (tenq_pos (P + 1)))
    have e : ((Z : Rat) * u + 9 / 5 * u) * 10 ^ (P + 1) = Z + 9 / 5 := by
      have : ((Z : Rat) * u + 9 / 5 * u) * 10 ^ (P + 1) = (Z + 9 / 5) * (u * 10 ^ (P + 1)) := by grind
      rw [this, u2]; grind
    rw [e, ten_add, show (10 : Rat) ^ 1 = 10 by decide +kernel] at d
    have : ((-(10 ^ (P + 12)) : Int) : Rat) ≤ Z := by
      rw [Rat.intCast_neg, cast_ten, ten_add, show (10 : Rat) ^ 12 = 1000000000000 by decide +kernel]; grind
    exact Rat.intCast_le_intCast.mp this
end
end Mine

end
section
open PySem PySem.W PyProof.Rows
namespace Mine
section
variable {xc xe zc s D yc bc be l : Int} {P k j A : Nat}
/-- x itself has come back -/
def Back10 (xc xe : Int) (P : Nat) (c e : Int) : Prop := 10 ^ (P - 1) ≤ c ∧ c ≤ 10 ^ P ∧ 0 ≤ xe - e ∧ xe - e ≤ P ∧ c = xc * 10 ^ (xe - e).toNat
theorem back_int (a : A10 xc xe P zc s k) {d f : Int} (hd2 : d ≤ 10 ^ (P + 1)) (h1 : ((d : Rat) - 5 / 2) * tenZ f < valQ xc xe) (h2 : valQ xc xe < ((d : Rat) + 5 / 2) * tenZ f)
    (h3 : ((10 : Rat) ^ P - 95 / 100) * tenZ f < valQ xc xe) : Back10 xc xe P (divN d 10) (f + 1) := by
  obtain ⟨hP, hxP⟩ := xc_P a
  have hx2 := a.1
  have hT := tenZ_pos f
  have eV : valQ xc xe = xc * tenZ (xe - f) * tenZ f := by
    rw [valQ_ten, Rat.mul_assoc, ← tenZ_add, show xe - f + f = xe by omega]
  rw [eV] at h1 h2 h3
  have cn : ∀ {p q : Rat}, p * tenZ f < q * tenZ f → p < q := by
    intro p q h
    rcases rlt_or_le p q with g | g
    · exact g
    · have := Rat.mul_le_mul_of_nonneg_right g (Rat.le_of_lt hT)
      grind
  replace h1 := cn h1
  replace h2 := cn h2
  replace h3 := cn h3
  have hxq : (0 : Rat) ≤ xc := by exact_mod_cast (show (0 : Int) ≤ xc by omega)
  rcases Int.lt_or_le 0 (xe - f) with g | g
  · obtain ⟨m, hm⟩ : ∃ m : Nat, xe - f = (m : Int) + 1 := ⟨(xe - f - 1).toNat, by omega⟩
    have eX : (xc : Rat) * tenZ (xe - f) = ((10 * (xc * 10 ^ m) : Int) : Rat) := by
      rw [hm, tenZ_add, tenZ_nat, show tenZ 1 = 10 by decide +kernel, Rat.intCast_mul, Rat.intCast_mul, cast_ten, show (((10 : Int)) : Rat) = 10 from rfl]
      grind
    rw [eX] at h1 h2 h3
    have e1 : xe - (f + 1) = (m : Int) := by omega
    obtain ⟨W, hW⟩ : ∃ W : Int, W = xc * 10 ^ m := ⟨_, rfl⟩
    rw [← hW] at h1 h2 h3
    have i1 : d - 3 < 10 * W := Rat.intCast_lt_intCast.mp (by rw [Rat.intCast_sub, show (((3 : Int)) : Rat) = 3 from rfl]; grind)
    have i2 : 10 * W < d + 3 := Rat.intCast_lt_intCast.mp (by rw [Rat.intCast_add, show (((3 : Int)) : Rat) = 3 from rfl]; grind)
    have i3 : 10 ^ P - 1 < 10 * W := Rat.intCast_lt_intCast.mp (by rw [Rat.intCast_sub, cast_ten, show (((1 : Int)) : Rat) = 1 from rfl]; grind)
    have ed : divN d 10 = W := by unfold divN; split <;> omega
    have ep : (10 : Int) ^ P = 10 * 10 ^ (P - 1) := by rw [← Int.pow_succ']; congr 1; omega
    have ep2 : (10 : Int) ^ (P + 1) = 10 * 10 ^ P := by rw [Int.pow_succ']
    rw [ed]
    refine ⟨by omega, by omega, by omega, ?_, ?_⟩
    · rw [e1]
      rcases Nat.lt_or_ge P m with c | c
      · exfalso
        have c1 := ipow10_le (Nat.le_of_lt c)
        have c2 := Int.mul_le_mul_of_nonneg_right hx2 (Int.le_of_lt (ten_k' m))
        have := ten_k' P
        omega
      · omega
    · rw [e1, Int.toNat_natCast]; exact hW
  · exfalso
    have t := tenZ_le g
    rw [show tenZ 0 = 1 by decide +kernel] at t
    have := Rat.mul_le_mul_of_nonneg_left t hxq
    have h5 := Rat.intCast_le_intCast.mpr (show xc ≤ 10 ^ P - 1 by omega)
    rw [Rat.intCast_sub, cast_ten, show (((1 : Int)) : Rat) = 1 from rfl] at h5
    grind
theorem end10 (h : B10 xc xe P zc s k D yc j A) (hb : IsDexp (P + 5 + A) zc (s + 1 - k) bc be) (hl : IsDlogZ ((j : Int) - s) bc be l) {d f : Int} (hm : P + 3 + dxE (divN (l * yc) (10 ^ j)) (-((P : Int) + 1)) ≤ 46)
    (hx : IsDexp (P + 3) (divN (l * yc) (10 ^ j)) (-((P : Int) + 1)) d f) : Back10 xc xe P (divN d 10) (f + 1) := by
  obtain ⟨gl, gu⟩ := logG h hb hl
  obtain ⟨u1, u2⟩ := u_facts (P := P)
  have hu := tenZ_pos (-((P : Int) + 1))
  have hP := (xc_P h.1).1
  obtain ⟨d1, d2, cl, cu⟩ := dx_core (c := divN (l * yc) (10 ^ j)) (e := -((P : Int) + 1)) (p := P + 1) (d := d) (f := f) (by omega) (by omega) hx
  rw [show P + 1 - 1 = P by omega] at d1
  have q1 := Rat.intCast_le_intCast.mpr d1
  have q2 := Rat.intCast_le_intCast.mpr d2
  rw [cast_ten] at q1 q2
  have hT := tenZ_pos f
  have hP1 := qpow10_le (show 1 ≤ P by omega)
  rw [show (10 : Rat) ^ 1 = 10 by decide +kernel] at hP1
  have e10 : (10 : Rat) ^ (P + 1) = 10 * 10 ^ P := by rw [ten_add, show (10 : Rat) ^ 1 = 10 by decide +kernel]; grind
  have o1 : ((1 : Nat) : Rat) = 1 := rfl
  generalize divN (l * yc) (10 ^ j) = Z at *
  generalize tenZ (-((P : Int) + 1)) = u at *
  have hu1 : u ≤ 1 / 100 := by
    have := Rat.mul_le_mul_of_nonneg_left hP1 (Rat.le_of_lt hu)
    rw [u1] at this
    grind
  have ud : u * d ≤ 1 := by
    have := Rat.mul_le_mul_of_nonneg_left q2 (Rat.le_of_lt hu)
    grind
  have hi := gen_hi (k := 1) (A := 5 / 2) (β := 9 / 5 * u) (by decide) hT (show 1 ≤ (d : Rat) by grind) (by decide +kernel) (by
    have : 9 / 5 * u * ((d : Rat) + 5 / 2) = 9 / 5 * (u * d) + 9 / 2 * u := by grind
    rw [this]; grind) (by rw [o1, Rat.one_mul]; exact gu) cl
  have lo := gen_lo (k := 1) (A := 5 / 2) (β := 9 / 5 * u) (by decide) hT (show 5 / 2 < (d : Rat) by grind) (by decide +kernel) (by
    have : 9 / 5 * u * ((d : Rat) + 5 / 2) = 9 / 5 * (u * d) + 9 / 2 * u := by grind
    rw [this]; grind) (by grind) (by rw [o1, Rat.one_mul]; exact gl) cu
  have p1 : ∀ x : Rat, x ^ 1 = x := by intro x; rw [Rat.pow_succ, Rat.pow_zero, Rat.one_mul]
  rw [p1] at hi lo
  refine back_int h.1 d2 lo hi ?_
  rcases Int.lt_or_le (10 ^ P + 1) d with g | g
  · have q3 := Rat.intCast_le_intCast.mpr (show 10 ^ P + 2 ≤ d by omega)
    rw [Rat.intCast_add, cast_ten, show (((2 : Int)) : Rat) = 2 from rfl] at q3
    have := Rat.mul_le_mul_of_nonneg_right (show (10 : Rat) ^ P - 95 / 100 ≤ d - 5 / 2 by grind) (Rat.le_of_lt hT)
    grind
  · have q3 := Rat.intCast_le_intCast.mpr g
    rw [Rat.intCast_add, cast_ten, show (((1 : Int)) : Rat) = 1 from rfl] at q3
    have ud2 : u * d ≤ 1 / 10 + u := by
      have := Rat.mul_le_mul_of_nonneg_left q3 (Rat.le_of_lt hu)
      have e : u * ((10 : Rat) ^ P + 1) = u * 10 ^ P + u := by grind
      rw [e, u1] at this
      exact this
    have lo2 := gen_lo (k := 1) (A := 95 / 100) (β := 9 / 5 * u) (by decide) hT (show 95 / 100 < (d : Rat) by grind) (by decide +kernel) (by
      have : 9 / 5 * u * ((d : Rat) + 95 / 100) = 9 / 5 * (u * d) + 171 / 100 * u := by grind
      rw [this]; grind) (by grind) (by rw [o1, Rat.one_mul]; exact gl) cu
    rw [p1] at lo2
    have := Rat.mul_le_mul_of_nonneg_right (show (10 : Rat) ^ P - 95 / 100 ≤ d - 95 / 100 by grind) (Rat.le_of_lt hT)
    grind
/-- the size of the told logarithm -/
theorem l_fit10 (h : B10 xc xe P zc s k D yc j A) (hb : IsDexp (P + 5 + A) zc (s + 1 - k) bc be) (hl : IsDlogZ ((j : Int) - s) bc be l) : Fit 1100 l := by
  obtain ⟨_, _, bl, bu⟩ := base10 h hb
  obtain ⟨ll, lu⟩ := dl_Z (ok10 h hb) hl
  obtain ⟨⟨z1, z2⟩, _⟩ := zz_rng h.1
  obtain ⟨j1, j2⟩ := j_rng h
  obtain ⟨_, _, _, _, _, _, hP, _, _, hk13, hs1, hs2⟩ := h.1
  have hQ := qpow10_le (show 2 ≤ P + 1 + A by have := (xc_P h.1).1; omega)
  rw [show (10 : Rat) ^ 2 = 100 by decide +kernel] at hQ
  have hi : 63 / 1000 / (10 : Rat) ^ (P + 1 + A) ≤ 1 := by
    refine rdiv_le (by grind) ?_
    grind
  have hi0 : 0 ≤ 63 / 1000 / (10 : Rat) ^ (P + 1 + A) := le_rdiv (by grind) (by grind)
  have c1 := ll.le bu
  have c2 := bl.le lu
  have t1 := tenZ_le (show s + 1 ≤ 13 by omega)
  have en : tenZ (-((j : Int) - s)) * tenZ ((j : Int) - s) = 1 := by rw [← tenZ_add, show -((j : Int) - s) + (j - s) = 0 by omega]; decide +kernel
  have tp := tenZ_pos ((j : Int) - s)
  have t2 := tenZ_le (show (j : Int) - s ≤ 43 by omega)
  have m1 := Rat.mul_le_mul_of_nonneg_right c1 (Rat.le_of_lt tp)
  have m2 := Rat.mul_le_mul_of_nonneg_right c2 (Rat.le_of_lt tp)
  have e1 : (100 * (l : Rat) - 102) * tenZ (-((j : Int) - s)) * tenZ ((j : Int) - s) = 100 * (l : Rat) - 102 := by rw [Rat.mul_assoc, en, Rat.mul_one]
  have e2 : (100 * (l : Rat) + 102) * tenZ (-((j : Int) - s)) * tenZ ((j : Int) - s) = 100 * (l : Rat) + 102 := by rw [Rat.mul_assoc, en, Rat.mul_one]
  rw [e1] at m1
  rw [e2] at m2
  have k13 : tenZ 13 = 10 ^ 13 := by decide +kernel
  have k43 : tenZ 43 = 10 ^ 43 := by decide +kernel
  rw [k13] at t1
  rw [k43] at t2
  generalize 63 / 1000 / (10 : Rat) ^ (P + 1 + A) = e at *
  generalize (zc : Rat) * tenZ (s + 1 - k) = z at *
  generalize tenZ ((j : Int) - s) = w at *
  generalize tenZ (s + 1) = S at *
  have r1 := (rabs_mul2 (a := z + e) (b := w) (A := 10 ^ 13 + 1) (B := 10 ^ 43) (by grind) (by grind) t2 (by grind)).1
  have r2 := (rabs_mul2 (a := z - e) (b := w) (A := 10 ^ 13 + 1) (B := 10 ^ 43) (by grind) (by grind) t2 (by grind)).2
  have i1 : l ≤ 10 ^ 60 := Rat.intCast_le_intCast.mp (by rw [cast_ten]; grind)
  have i2 : -(10 ^ 60) ≤ l := Rat.intCast_le_intCast.mp (by rw [Rat.intCast_neg, cast_ten]; grind)
  have f : Fit 1100 ((10 : Int) ^ 60) := by unfold Fit; decide +kernel
  unfold Fit at *
  omega
theorem pc_pre10 (h : B10 xc xe P zc s k D yc j A) (hb : IsDexp (P + 5 + A) zc (s + 1 - k) bc be) (hl : IsDlogZ ((j : Int) - s) bc be l) :
    divN (l * yc) (10 ^ j) ≠ 0 ∧ Fit 1100 (divN (l * yc) (10 ^ j)) ∧ P + 3 + dxE (divN (l * yc) (10 ^ j)) (-((P : Int) + 1)) ≤ 46 := by
  obtain ⟨h0, h1, h2⟩ := pc10 h hb hl
  have hP := h.1.2.2.2.2.2.2.1
  have hp := ten_k' (P + 12)
  have hn : nd (divN (l * yc) (10 ^ j)) ≤ P + 13 + 1 := nd_abs_le (by omega) (by
    have e : (10 : Int) ^ (P + 13) = 10 * 10 ^ (P + 12) := by rw [← Int.pow_succ']
    omega)
  refine ⟨h0, ?_, ?_⟩
  · have f : Fit 1100 ((10 : Int) ^ 29) := by unfold Fit; decide +kernel
    have := ipow10_le (show P + 12 ≤ 29 by omega)
    unfold Fit at *
    omega
  · unfold dxE
    omega
end
end Mine

end
section
open PySem PySem.W PyProof.Rows
namespace Mine
theorem redOk_B1 {p : Nat} {x : Int} (hp : 1 ≤ p) (hx : 10 ^ p ≤ x) (hx2 : x ≤ 10 * 10 ^ p) : RedOk x (10 ^ p) := redOk_1 hp (by have := ten_k' p; omega) hx2
theorem redOk_T1 {p : Nat} {x : Int} (hp : 1 ≤ p) (hx : 10 ^ p ≤ 10 * x) (hx2 : x ≤ 10 ^ p) : RedOk x (10 ^ p) := redOk_1 hp hx (by have := ten_k' p; omega)
/-- the first two digits and so on: the mantissa of _dlog from one up to ten -/
theorem dl_red1 {n : Nat} {c : Int} (hn : 1 ≤ n) (hc : 1 ≤ c) : RedOk (dlC c ((n : Int) + 1 - nd c)) (10 ^ n) := by
  have h1 := nd_pos c (by omega)
  obtain ⟨c1, c2⟩ := nd_lo hc
  rcases Int.lt_or_le ((n : Int) + 1 - nd c) 0 with hK | hK
  · rw [dlC_neg (by omega)]
    obtain ⟨j, hj⟩ : ∃ j : Nat, nd c = n + 1 + j ∧ 0 < j := ⟨nd c - (n + 1), by omega, by omega⟩
    have ej : (-((n : Int) + 1 - nd c)).toNat = j := by omega
    rw [ej]
    have hpj : (0 : Int) < 10 ^ j := Int.pow_pos (by decide)
    have e1 : (10 : Int) ^ (nd c - 1) = 10 ^ n * 10 ^ j := by rw [← Int.pow_add]; congr 1; omega
    have e2 : (10 : Int) ^ nd c = 10 * 10 ^ n * 10 ^ j := by rw [Int.mul_assoc, ← Int.pow_add, ← Int.pow_succ']; congr 1; omega
    exact redOk_B1 hn (le_divN hpj (by rw [← e1]; exact c1)) (divN_le hpj (by rw [← e2]; omega))
  · rw [dlC_pos hK]
    obtain ⟨j, hj⟩ : ∃ j : Nat, n + 1 = nd c + j := ⟨n + 1 - nd c, by omega⟩
    have ej : ((n : Int) + 1 - nd c).toNat = j := by omega
    rw [ej]
    have hpj : (0 : Int) < 10 ^ j := Int.pow_pos (by decide)
    have e1 : (10 : Int) ^ n = 10 ^ (nd c - 1) * 10 ^ j := by rw [← Int.pow_add]; congr 1; omega
    have e2 : (10 : Int) * 10 ^ n = 10 ^ nd c * 10 ^ j := by rw [← Int.pow_succ', ← Int.pow_add]; congr 1
    refine redOk_B1 hn (by rw [e1]; exact Int.mul_le_mul_of_nonneg_right c1 (by omega)) ?_
    rw [e2]
    exact Int.mul_le_mul_of_nonneg_right (by omega) (by omega)
/-- what the walk of _dlog asks, in general -/
theorem dl_redD1 {n : Nat} {c : Int} (hn : 1 ≤ n) (hc : 1 ≤ c) : RedOk (dlC c ((n : Int) - nd c)) (10 ^ n) := by
  have h1 := nd_pos c (by omega)
  obtain ⟨c1, c2⟩ := nd_lo hc
  rcases Int.lt_or_le ((n : Int) - nd c) 0 with hK | hK
  · rw [dlC_neg (by omega)]
    obtain ⟨j, hj⟩ : ∃ j : Nat, nd c = n + j ∧ 0 < j := ⟨nd c - n, by omega, by omega⟩
    rw [show (-((n : Int) - nd c)).toNat = j by omega]
    have hpj : (0 : Int) < 10 ^ j := Int.pow_pos (by decide)
    have e1 : (10 : Int) ^ nd c = 10 ^ n * 10 ^ j := by rw [← Int.pow_add]; congr 1; omega
    have e2 : 10 * (10 : Int) ^ (nd c - 1) = 10 ^ n * 10 ^ j := by rw [← e1, ← Int.pow_succ']; congr 1; omega
    refine redOk_T1 hn ?_ (divN_le hpj (by rw [← e1]; omega))
    obtain ⟨k, hk⟩ : ∃ k : Int, (10 : Int) ^ n = 10 * k := ⟨10 ^ (n - 1), by rw [← Int.pow_succ']; congr 1; omega⟩
    have : k ≤ divN c (10 ^ j) := le_divN hpj (by
      have e9 : 10 * (k * 10 ^ j) = 10 ^ n * 10 ^ j := by rw [hk, Int.mul_assoc]
      omega)
    omega
  · rw [dlC_pos hK]
    obtain ⟨j, hj⟩ : ∃ j : Nat, n = nd c + j := ⟨n - nd c, by omega⟩
    rw [show ((n : Int) - nd c).toNat = j by omega]
    have hpj : (0 : Int) < 10 ^ j := Int.pow_pos (by decide)
    have e1 : (10 : Int) ^ n = 10 ^ nd c * 10 ^ j := by rw [← Int.pow_add]; congr 1
    have e2 : (10 : Int) ^ n = 10 * (10 ^ (nd c - 1) * 10 ^ j) := by rw [← Int.mul_assoc, ← Int.pow_succ', ← Int.pow_add]; congr 1; omega
    refine redOk_T1 hn ?_ ?_
    · rw [e2]
      have := Int.mul_le_mul_of_nonneg_right c1 (Int.le_of_lt hpj)
      omega
    · rw [e1]
      exact Int.mul_le_mul_of_nonneg_right (by omega) (by omega)
theorem dlF_k {m : Nat} {c e : Int} (hc : 1 ≤ c) (hnc : nd c ≤ 100) (hn : 1 ≤ m ∧ m ≤ 46) : -200 ≤ e + m - dlF c e ∧ e + m - dlF c e ≤ 200 ∧ RedOk (dlC c (e + m - dlF c e)) (10 ^ m) := by
  have h1 := nd_pos c (by omega)
  rcases Int.lt_or_le 0 (e + nd c) with hp | hp
  · obtain ⟨f, hf⟩ : ∃ f : Nat, e + nd c - 1 = (f : Int) := ⟨(e + nd c - 1).toNat, by omega⟩
    rw [dlF_up hf, show e + (m : Int) - (f : Int) = (m : Int) + 1 - nd c by omega]
    exact ⟨by omega, by omega, dl_red1 hn.1 hc⟩
  · obtain ⟨g, hg⟩ : ∃ g : Nat, e + nd c = -(g : Int) := ⟨(-(e + nd c)).toNat, by omega⟩
    rw [dlF_dn hg, show e + (m : Int) - -(g : Int) = (m : Int) - nd c by omega]
    exact ⟨by omega, by omega, dl_redD1 hn.1 hc⟩
theorem ex_60 {f : Int} (h1 : -10000000000000000 ≤ f) (h2 : f ≤ 10000000000000000) : nd (f.natAbs : Int) - 1 ≤ 60 := by
  have := nd_small (x := (f.natAbs : Int)) (k := 18) (by omega) (by decide) (Int.lt_of_le_of_lt (show (f.natAbs : Int) ≤ 10000000000000000 by omega) (by decide))
  omega
theorem dl_fin0 {n f : Int} {ex : Nat} (hex : nd (f.natAbs : Int) - 1 = ex) : divN (divN (f * l10 (n + (ex : Int)).toNat) (10 ^ (ex : Int).toNat) + 0) 100 = divN (dlTz n f + 0) 100 := by
  unfold dlTz
  rw [hex, Int.toNat_natCast]
theorem conI_mono' {prog : Program} {w : World} {K : Frag} {p : Program} {loose : List Str} {mean : ExcName → Option Value} {mg mb : Str → Option Value} {d : Nat} {f : Addr} {vs : List Value} {P Q : Int → Prop} (h : ∀ a, P a → Q a) (c : ConI prog w K p loose mean mg mb d f vs P) : ConI prog w K p loose mean mg mb d f vs Q := by
  intro news dp un gd cn cs a ccd cl outer A₀ base h₀ L m s Q' E k1 k2 k3 k4 k5 k6 k7 k8 k9
  exact c news dp un gd cn cs a ccd cl outer A₀ base h₀ L m s Q' E k1 k2 k3 k4 k5 k6 k7 k8 fun r1 t1 h' tk' hp => k9 r1 t1 h' tk' (h _ hp)
theorem conP_mono9 {prog : Program} {w : World} {K : Frag} {p : Program} {loose : List Str} {mean : ExcName → Option Value} {mg mb : Str → Option Value} {d : Nat} {f : Addr} {vs : List Value} {P Q : Int → Int → Prop} (h : ∀ a b, P a b → Q a b) (c : ConP prog w K p loose mean mg mb d f vs P) : ConP prog w K p loose mean mg mb d f vs Q := by
  intro news dp un gd cn cs a ccd cl outer A₀ base h₀ L m s Q' E k1 k2 k3 k4 k5 k6 k7 k8 k9
  exact c news dp un gd cn cs a ccd cl outer A₀ base h₀ L m s Q' E k1 k2 k3 k4 k5 k6 k7 k8 fun r1 r2 t1 t2 D h' tk' hp => k9 r1 r2 t1 t2 D h' tk' (h _ _ hp)
end Mine

end
section
open PySem PySem.W PyProof.Rows
namespace Mine
section
variable {M : Model} {A : Around} {Q : Unit → Shared → Prop} {E : Value → Shared → Prop} {s : Shared} {env : Env}
theorem st_pc {D : Int → Prop} {P : Nat} {l yc : Int} {j : Nat} {t : Tok} (hz : ∀ l, D l → divN (l * yc) (10 ^ j) ≠ 0 ∧ Fit 1100 (divN (l * yc) (10 ^ j)) ∧ P + 3 + dxE (divN (l * yc) (10 ^ j)) (-((P : Int) + 1)) ≤ 46) (hl : D l)
    (k : ∀ Z, Z ≠ 0 → Fit 1100 Z → P + 3 + dxE Z (-((P : Int) + 1)) ≤ 46 → Z = divN (l * yc) (10 ^ j) → wpAny M A (storeName env (Str.ofString "pc") (.int Z t)) Q E s) : wpAny M A (storeName env (Str.ofString "pc") (.int (divN (l * yc) (10 ^ (- -(j : Int)).toNat)) t)) Q E s := by
  have e : (- -(j : Int)).toNat = j := by omega
  rw [e]
  exact k _ (hz l hl).1 (hz l hl).2.1 (hz l hl).2.2 rfl
end
theorem dp_b {yc ye B : Int} (h : ((nd (yc.natAbs : Int) : Nat) : Int) + ye = B) : ((Str.ofString (toString (if yc < 0 then -yc else yc))).length : Int) + ye = B := by
  rw [abs_if]; exact h
theorem dp_end {D : Int → Prop} {P j : Nat} {yc l d f Z : Int} (hl : D l) (hj : nd (yc.natAbs : Int) = j) (hz : Z = divN (l * yc) (10 ^ j)) (h : IsDexp (P + 3) Z (-((P : Int) + 1)) d f) : IsDpow D P yc (divN d 10) (f + 1) := by
  subst hj
  subst hz
  exact ⟨l, d, f, hl, h, rfl, rfl⟩
end Mine

end
section
open PySem PySem.W PyProof.Rows
namespace Mine
/-- what the walk needs of the end -/
def Ans10 (xc xe : Int) (P : Nat) (c e : Int) : Prop := 10 ^ ((P : Int) - 1).toNat ≤ c ∧ c ≤ 10 ^ ((P : Int)).toNat ∧ 0 ≤ xe - e ∧ xe - e ≤ P ∧ c = xc * 10 ^ (xe - e).toNat ∧ Fit 200 c
section
variable {xc xe zc s D yc bc be l : Int} {P k j A : Nat}
theorem ans10 (h : B10 xc xe P zc s k D yc j A) (hb : IsDexp (P + 5 + A) zc (s + 1 - k) bc be) {c e : Int} (hd : IsDpow (IsDlogZ ((j : Int) - s) bc be) P yc c e) : Ans10 xc xe P c e := by
  obtain ⟨l, d, f, hl, hx, rfl, rfl⟩ := hd
  have hj := h.2.2.2.1
  rw [hj] at hx
  obtain ⟨b1, b2, b3, b4, b5⟩ := end10 h hb hl (pc_pre10 h hb hl).2.2 hx
  have hP := xc_P h.1
  have hP17 := h.1.2.2.2.2.2.2.1
  refine ⟨?_, ?_, b3, b4, b5, ?_⟩
  · rw [show ((P : Int) - 1).toNat = P - 1 by omega]; exact b1
  · rw [Int.toNat_natCast]; exact b2
  · have f : Fit 200 ((10 : Int) ^ 17) := by unfold Fit; decide +kernel
    have := ipow10_le hP17
    have := ten_k' (P - 1)
    exact Fit.of_le f (by omega) (by omega)
theorem dpre10 (h : B10 xc xe P zc s k D yc j A) (hb : IsDexp (P + 5 + A) zc (s + 1 - k) bc be) : ∀ l, IsDlogZ ((j : Int) - s) bc be l → divN (l * yc) (10 ^ nd (yc.natAbs : Int)) ≠ 0 ∧ Fit 1100 (divN (l * yc) (10 ^ nd (yc.natAbs : Int))) ∧ P + 3 + dxE (divN (l * yc) (10 ^ nd (yc.natAbs : Int))) (-((P : Int) + 1)) ≤ 46 := by
  intro l hl
  rw [h.2.2.2.1]
  exact pc_pre10 h hb hl
theorem B10.fit (h : B10 xc xe P zc s k D yc j A) : Fit 1100 yc := by
  obtain ⟨a, hD, hy, hj, _⟩ := h
  have hP := a.2.2.2.2.2.2.1
  obtain ⟨_, y2, _⟩ := yc_facts10 a hD hy
  have := ipow10_le (show P + 14 ≤ 31 by omega)
  have f : Fit 1100 ((10 : Int) ^ 31) := by unfold Fit; decide +kernel
  unfold Fit at *
  omega
theorem D_fit10 (a : A10 xc xe P zc s k) (hD : IsDlogZ ((P : Int) + 4) xc xe D) : Fit 1100 D := by
  obtain ⟨_, d2, d3⟩ := D_rng a hD
  have hP := a.2.2.2.2.2.2.1
  have := ipow10_le (show P + 12 ≤ 29 by omega)
  have f : Fit 1100 ((10 : Int) ^ 29) := by unfold Fit; decide +kernel
  unfold Fit at *
  omega
theorem dx1_10 : (P : Int) + 3 + (A : Int) + 2 = ((P + 5 + A : Nat) : Int) := by omega
theorem b_n10 (h : B10 xc xe P zc s k D yc j A) : (P : Int) + (((nd (yc.natAbs : Int) : Nat) : Int) + (-(P : Int) - 3 - s)) + 1 + 2 = (j : Int) - s := by
  rw [h.2.2.2.1]; omega
theorem hk10 (a : A10 xc xe P zc s k) : ((Str.ofString (toString (if zc < 0 then -zc else zc))).length : Int) = (k : Int) := by
  rw [abs_if]
  have : ((Str.ofString (toString (zc.natAbs : Int))).length) = nd (zc.natAbs : Int) := rfl
  rw [this, a.2.2.2.2.2.2.2.2.1]
section
variable {M : Model} {Ar : Around} {Q : Unit → Shared → Prop} {F : Value → Shared → Prop} {S : Shared} {env : Env} {t : Tok}
theorem st_yc (a : A10 xc xe P zc s k) (hD : IsDlogZ ((P : Int) + 4) xc xe D)
    (K : ∀ (Y : Int) (j A : Nat), B10 xc xe P zc s k D Y j A → Fit 1100 Y → P + 5 + A + dxE zc (s + 1 - k) ≤ 46 → A ≤ 23 → wpAny M Ar (storeName env (Str.ofString "yc") (.int Y t)) Q F S) : wpAny M Ar (storeName env (Str.ofString "yc") (.int ((D * 10 ^ (k : Int).toNat).fdiv zc) t)) Q F S := by
  rw [Int.toNat_natCast]
  obtain ⟨Y, hY⟩ : ∃ Y, Y = (D * 10 ^ k).fdiv zc := ⟨_, rfl⟩
  rw [← hY]
  have b : B10 xc xe P zc s k D Y (nd (Y.natAbs : Int)) (max 0 ((nd (Y.natAbs : Int) : Int) - P - 3 - s)).toNat := ⟨a, hD, hY, rfl, by omega⟩
  have j := j_rng b
  have hs := a.2.2.2.2.2.2.2.2.2.2.1
  exact K Y _ _ b b.fit (dxE10 b) (by omega)
theorem st_ahead (h : B10 xc xe P zc s k D yc j A) (K : wpAny M Ar (storeName env (Str.ofString "ahead") (.int (A : Int) t)) Q F S) :
    wpAny M Ar (storeName env (Str.ofString "ahead") (.int (if ((Str.ofString (toString (if yc < 0 then -yc else yc))).length : Int) + (-(P : Int) - 3 - s) > 0 then ((Str.ofString (toString (if yc < 0 then -yc else yc))).length : Int) + (-(P : Int) - 3 - s) else 0) t)) Q F S := by
  have e : ((Str.ofString (toString (if yc < 0 then -yc else yc))).length : Int) = j := by
    rw [abs_if]
    have : ((Str.ofString (toString (yc.natAbs : Int))).length) = nd (yc.natAbs : Int) := rfl
    rw [this, h.2.2.2.1]
  have hA := h.2.2.2.2
  rw [e]
  have e2 : (if (j : Int) + (-(P : Int) - 3 - s) > 0 then (j : Int) + (-(P : Int) - 3 - s) else 0) = (A : Int) := by split <;> omega
  rw [e2]
  exact K
end
end
end Mine

end
section
open PySem PySem.W PyProof.Rows
namespace Mine
section
variable {M : Model} {A : Around} {E : Value → Shared → Prop} {s : Shared} {h₀ : Heap} {L : Addr} {m : Str → Option Value} {news all : List (Addr × Obj)}
/-- a statement whose ways are joined: it stores the int of one name -/
def SQ (h₀ : Heap) (L : Addr) (x : Str) (stored : List Str) (m : Str → Option Value) (news : List (Addr × Obj)) (C : Int → Prop) (s : Shared) (f : Flow) (s' : Shared) : Prop :=
  ∃ h' tk' B t m', f = .next ∧ s' = { s with heap := h', toks := tk' } ∧ Fr h₀ L h' m' ∧ News h₀ L h' news ∧ C B ∧ m' x = some (.int B t) ∧ ∀ z, z ≠ x → stored.contains z = false → m' z = m z
theorem SQ.intro {x : Str} {stored : List Str} {C : Int → Prop} {h' : Heap} {tk' : Nat} {B : Int} {t : Tok} {m' : Str → Option Value} (F : Fr h₀ L h' m') (N : News h₀ L h' all) (hs : ∀ p ∈ news, p ∈ all) (hx : m' x = some (.int B t)) (hc : C B) (hz : ∀ z, z ≠ x → stored.contains z = false → m' z = m z) :
    SQ h₀ L x stored m news C s .next { s with heap := h', toks := tk' } := ⟨h', tk', B, t, m', rfl, rfl, F, fun p hp => N p (hs p hp), hc, hx, hz⟩
theorem join_if {y : Sem Flow} {Q : Flow → Shared → Prop} (x : Str) (stored : List Str) (C : Int → Prop) (_F : Fr h₀ L s.heap m) (_N : News h₀ L s.heap news) (h : wpAny M A y (SQ h₀ L x stored m news C s) E s)
    (k : ∀ B t (u : Str → Option Value) h' tk', C B → Fr h₀ L h' (fun z => if z = x then some (.int B t) else if stored.contains z then u z else m z) → News h₀ L h' news → Q .next { s with heap := h', toks := tk' }) : wpAny M A y Q E s := by
  refine wpAny_mono h (fun f s' p => ?_) fun _ _ e => e
  obtain ⟨h', tk', B, t, m', rfl, rfl, F, N, hc, hx, hz⟩ := p
  have e : m' = fun z => if z = x then some (.int B t) else if stored.contains z then m' z else m z := by
    funext z
    by_cases h1 : z = x
    · rw [if_pos h1, h1]; exact hx
    · rw [if_neg h1]
      cases h2 : stored.contains z with
      | true => simp
      | false => simp only [Bool.false_eq_true, if_false]; exact hz z h1 h2
  rw [e] at F
  exact k B t m' h' tk' hc F N
end
end Mine

end
section
open PySem PySem.W PyProof.Rows
namespace Mine
theorem fr_ne8 {a z : Str} {v r x : Option Value} (h : z ≠ a) (hx : x = r) : (if z = a then v else x) = r := by
  rw [if_neg h]; exact hx
end Mine

end
section
open PySem PySem.W PyProof.Rows
namespace Mine
section
variable {M : Model} {Ar : Around} {Q : Unit → Shared → Prop} {F : Value → Shared → Prop} {S : Shared} {env : Env} {t : Tok} {D xc xe zc : Int} {P : Nat}
/-- x after the law's if -/
def Ne10 (xc xe : Int) : Prop := ∀ m : Nat, xe = -(m : Int) → m < 20 → xc ≠ 10 ^ m
theorem sx_xc {b : Int} (hb : b = 1000000000000) (K : ∀ x : Int, 2 ≤ x → x ≤ 1000000000001 → Fit 60 x → wpAny M Ar (storeName env (Str.ofString "xc") (.int x t)) Q F S) : wpAny M Ar (storeName env (Str.ofString "xc") (.int (2 + D.fmod b) t)) Q F S := by
  subst hb
  have := fmod_rng (D := D) (b := 1000000000000) (by decide)
  exact K _ (by omega) (by omega) (by unfold Fit; omega)
theorem sx_xe {b c : Int} (hb : b = 2000000001) (hc : c = 1000000000) (K : ∀ m : Int, -1000000000 ≤ m → m ≤ 1000000000 → wpAny M Ar (storeName env (Str.ofString "xe") (.int m t)) Q F S) : wpAny M Ar (storeName env (Str.ofString "xe") (.int (D.fmod b - c) t)) Q F S := by
  subst hb hc
  have := fmod_rng (D := D) (b := 2000000001) (by decide)
  exact K _ (by omega) (by omega)
theorem ne_up (h1 : -20 < xe) (h2 : xe ≤ 0) (h : xc = 10 ^ (-xe).toNat) : Ne10 (xc + 1) xe := by
  intro m hm _
  rw [show (-xe).toNat = m by omega] at h
  omega
theorem ne_eq (h : ¬ xc = 10 ^ (-xe).toNat) : Ne10 xc xe := by
  intro m hm _
  rw [show (-xe).toNat = m by omega] at h
  exact h
theorem ne_far (h : xe ≤ -20 ∨ 0 < xe) : Ne10 xc xe := by
  intro m hm hl
  omega
theorem sx_p (h2 : 2 ≤ xc) (h13 : xc ≤ 1000000000002) (K : ∀ P : Nat, nd xc ≤ P → P ≤ 17 → wpAny M Ar (storeName env (Str.ofString "p") (.int (P : Int) t)) Q F S) : wpAny M Ar (storeName env (Str.ofString "p") (.int (((Str.ofString (toString xc)).length : Int) + (D.fmod 5)) t)) Q F S := by
  have := fmod_rng (D := D) (b := 5) (by decide)
  have hn : nd xc ≤ 13 := nd_small (by omega) (by decide) (Int.lt_of_le_of_lt h13 (by decide))
  have e : ((Str.ofString (toString xc)).length) = nd xc := rfl
  have h := K (nd xc + (D.fmod 5).toNat) (by omega) (by omega)
  rw [show (((nd xc + (D.fmod 5).toNat : Nat)) : Int) = (nd xc : Int) + D.fmod 5 by omega] at h
  exact h
theorem sx_zc {b : Int} (hb : b = 1000000000000) (K : ∀ x : Int, 1 ≤ x → x ≤ 1000000000000 → Fit 60 x → wpAny M Ar (storeName env (Str.ofString "zc") (.int x t)) Q F S) : wpAny M Ar (storeName env (Str.ofString "zc") (.int (1 + D.fmod b) t)) Q F S := by
  subst hb
  have := fmod_rng (D := D) (b := 1000000000000) (by decide)
  exact K _ (by omega) (by omega) (by unfold Fit; omega)
theorem sx_ze {b c : Int} (hb : b = 25) (hc : c = 12) (hp : nd xc ≤ P) (hx1 : -1000000000 ≤ xe) (h2 : 2 ≤ xc) (h13 : xc ≤ 1000000000002) (hx2 : xe ≤ 1000000000) (hne : Ne10 xc xe) (hp2 : P ≤ 17) (hz1 : 1 ≤ zc) (hz2 : zc ≤ 1000000000000)
    (K : ∀ (s : Int) (k : Nat), A10 xc xe P zc s k → A10 xc xe P (-zc) s k → wpAny M Ar (storeName env (Str.ofString "ze") (.int (s + 1 - (k : Int)) t)) Q F S) :
    wpAny M Ar (storeName env (Str.ofString "ze") (.int (D.fmod b - c + 1 - ((Str.ofString (toString zc)).length : Int)) t)) Q F S := by
  subst hb hc
  have := fmod_rng (D := D) (b := 25) (by decide)
  have hn : nd zc ≤ 13 := nd_small (by omega) (by decide) (Int.lt_of_le_of_lt hz2 (by decide))
  have e13 : (10 : Int) ^ 13 = 10000000000000 := by decide
  have b1 : A10 xc xe P zc (D.fmod 25 - 12) (nd zc) := ⟨h2, by omega, hx1, hx2, hne, hp, hp2, by omega, by rw [show ((zc.natAbs : Nat) : Int) = zc by omega], hn, by omega, by omega⟩
  have b2 : A10 xc xe P (-zc) (D.fmod 25 - 12) (nd zc) := ⟨h2, by omega, hx1, hx2, hne, hp, hp2, by omega, by rw [show (((-zc).natAbs : Nat) : Int) = zc by omega], hn, by omega, by omega⟩
  exact K _ _ b1 b2
end
end Mine

end
section
open PySem PySem.W PyProof.Rows
namespace Mine
theorem aside {p q : Program} {loose : List Str} {Xt : Shared → Bool} {α : Type} {Yf : Shared → α} {Ya : World → α} {N : Nat} {r : RowW} {XP : (Str → Option Value) → Heap → Prop} {YP : World → Heap → Prop} {d : DefRec} {kwd : List (Str × PySem.Expr)} {run : Value → List Value → Sem Value} {g : Prop}
  (hl : LeftO p q loose Xt Yf Ya N) (hw : r.promised) (hc : WalkO q loose XP YP r d kwd run) (hm : g) : g := hm
/-- the kit writes out heap and view (lay.heap_1, lay.view_1); the claim itself is proved by hd. -/
theorem lay : False → OpenRow.Holds (OpenLaw.row PySem.Challenge.rw_dm0271_10) := by
  intro f
  apply aside
  case hm =>
    w_on
    k_head
  all_goals exact f.elim
theorem said : OpenLaw.wellSaid PySem.Challenge.rw_dm0271_10 = true := by
  rw [PySem.W.Fast.te9446332074065402090]
  kernel_rfl
theorem hd {d : DefRec} {kwd : List (Str × PySem.Expr)}
    (hdef : defOf lay.view_1 (OpenRow.toRowW (OpenLaw.row PySem.Challenge.rw_dm0271_10)).name = some (d, kwd))
    (hp : (OpenRow.toRowW (OpenLaw.row PySem.Challenge.rw_dm0271_10)).prog.theDef (OpenRow.toRowW (OpenLaw.row PySem.Challenge.rw_dm0271_10)).name = some (d.params, d.body, d.scope))
    (hk : kwWritten? d.params.kwonlyargs d.params.kw_defaults = some kwd)
    (walk : WalkO lay.view_1 ["_nbits", "_ilog", "_log10_digits", "_iexp"] (XL lay.view_1 []) (Hook.says (kHook lay.heap_1 [2, 3, 6, 15, 17, 18, 20, 21, 22, 24, 25, 27, 28, 29, 31, 32, 34, 35, 36, 37, 39, 40, 42, 43, 44, 46, 47, 49, 50, 51, 58, 60, 61, 63, 64, 65, 67, 68, 70, 71, 72, 73, 74, 75, 76, 79, 80, 82, 83, 84, 86, 87, 89, 90, 91, 93, 94, 96, 97, 98, 100, 101, 103, 104, 105, 107, 108, 110, 111, 112, 114, 115, 117, 118, 119, 121, 122, 124, 125, 126, 128, 129, 131, 132] (fun _ => by kernel_rfl)))
      (OpenRow.toRowW (OpenLaw.row PySem.Challenge.rw_dm0271_10)) d kwd (fun f vs => PySem.call f vs)) : PySem.Challenge.rw_dm0271_10.Holds := by
  refine holds_law said fun said => ?_
  refine holds_open (q := lay.view_1) (XP := XL lay.view_1 []) (loose := ["_nbits", "_ilog", "_log10_digits", "_iexp"]) (Xt := fun s => xlAt lay.view_1 [] s && recOk (RowW.records (OpenRow.toRowW (OpenLaw.row PySem.Challenge.rw_dm0271_10))) s)
    (Yf := Hook.obs (kHook lay.heap_1 [2, 3, 6, 15, 17, 18, 20, 21, 22, 24, 25, 27, 28, 29, 31, 32, 34, 35, 36, 37, 39, 40, 42, 43, 44, 46, 47, 49, 50, 51, 58, 60, 61, 63, 64, 65, 67, 68, 70, 71, 72, 73, 74, 75, 76, 79, 80, 82, 83, 84, 86, 87, 89, 90, 91, 93, 94, 96, 97, 98, 100, 101, 103, 104, 105, 107, 108, 110, 111, 112, 114, 115, 117, 118, 119, 121, 122, 124, 125, 126, 128, 129, 131, 132] (fun _ => by kernel_rfl))) (Ya := Hook.val (kHook lay.heap_1 [2, 3, 6, 15, 17, 18, 20, 21, 22, 24, 25, 27, 28, 29, 31, 32, 34, 35, 36, 37, 39, 40, 42, 43, 44, 46, 47, 49, 50, 51, 58, 60, 61, 63, 64, 65, 67, 68, 70, 71, 72, 73, 74, 75, 76, 79, 80, 82, 83, 84, 86, 87, 89, 90, 91, 93, 94, 96, 97, 98, 100, 101, 103, 104, 105, 107, 108, 110, 111, 112, 114, 115, 117, 118, 119, 121, 122, 124, 125, 126, 128, 129, 131, 132] (fun _ => by kernel_rfl))) (N := 1800) ?hl (Hook.of _) (Hook.keeps _)
    (fun s e => xl_of s (Bool.and_eq_true_iff.mp e).1) XL.keeps hdef hp hk (fun s e => recFacts_of (Bool.and_eq_true_iff.mp e).2) (by rfl) said (by decide +kernel) ⟨rfl, rfl, rfl, rfl, rfl, by decide +kernel⟩ ?hw walk
  case hl =>
    intro w
    delta openEnds fencedOpening topFrom
    rw [PySem.W.Fast.te14082659384304107361, PySem.W.Fast.te4187177175401517315, PySem.W.Fast.te14364793385576792824, PySem.W.Fast.te5923862056798008813, PySem.W.Fast.te14289696077712309145, PySem.W.Fast.te10274390034422433532, PySem.W.Fast.te1435165496053646825]
    kernel_rfl
  case hw => w_witness2

local macro_rules | `(tactic| walk_at $s:str) => `(tactic| k_extra $s)
local macro_rules | `(tactic| k_qdec) => `(tactic| decide +kernel)
section
abbrev CI (w : World) (mean : ExcName → Option Value) (mg mb : Str → Option Value) (d : Nat) (f : Addr) (vs : List Value) (P : Int → Prop) : Prop :=
  ConI PySem.Challenge.rw_dm0271_10.row.prog w (lay.heap_1 w.params) lay.view_1 (looseW lay.view_1 [Str.ofString "_nbits", Str.ofString "_ilog", Str.ofString "_log10_digits", Str.ofString "_iexp"]) mean mg mb d f vs P
abbrev CX (w : World) (mean : ExcName → Option Value) (mg mb : Str → Option Value) (d : Nat) (f : Addr) (vs : List Value) (r : Int) : Prop :=
  ConX PySem.Challenge.rw_dm0271_10.row.prog w (lay.heap_1 w.params) lay.view_1 (looseW lay.view_1 [Str.ofString "_nbits", Str.ofString "_ilog", Str.ofString "_log10_digits", Str.ofString "_iexp"]) mean mg mb d f vs r
theorem con_div (w : World) (mean) (mg mb) (a b : Int) (ta tb : Tok) (hb : 0 < b) (hf : Fit 9000 b) : CX w mean mg mb 1 35 [.int a ta, .int b tb] (divN a b) := by
  unfold CX ConX
  k_fill
  intros; rename_i hret
  refine wpAny_call ?_
  w_on
  k_with_none
  k_with "call builtin:divmod" => (((with_reducible show wpAny _ _ (call (Value.builtin _) [Value.int _ _, Value.int _ _]) _ _ _); refine divmod_N (by assumption) (by assumption) (by omega) ?_ (Or.inl (Fit.noPylong (by assumption) (by decide))); intro _ _ _))
  k_with "binaryOp FloorDiv int int" => (((with_reducible show wpAny _ _ (binaryOp Operator.FloorDiv (Value.int _ _) (Value.int _ _)) _ _ _); (refine floordiv_int ?m1 ?_ (Or.inl (Fit.noPylong (n := 9000) ?m2 (by decide))); (case m1 => omega); (case m2 => first | assumption | k_extra "fit"))))
  k_dflt cell_enter
  k_steps
  · exact con_retX hret (divN_walk hb) (by assumption) (by assumption) (by intro p hp; simp [hp])
theorem con_rsh (w : World) (mean) (mg mb) (x n : Int) (tx tn : Tok) (hn : 0 ≤ n) (hn2 : n ≤ 100) : CX w mean mg mb 1 28 [.int x tx, .int n tn] (divN x (2 ^ n.toNat)) := by
  unfold CX ConX
  k_fill
  intros; rename_i hret
  refine wpAny_call ?_
  w_on
  k_with_none
  k_with "call builtin:divmod" => (((with_reducible show wpAny _ _ (call (Value.builtin _) [Value.int _ _, Value.int _ _]) _ _ _); refine divmod_N (by assumption) (by assumption) (by omega) ?_ (Or.inl (Fit.noPylong (by assumption) (by decide))); intro _ _ _))
  k_with "binaryOp FloorDiv int int" => (((with_reducible show wpAny _ _ (binaryOp Operator.FloorDiv (Value.int _ _) (Value.int _ _)) _ _ _); (refine floordiv_int ?m1 ?_ (Or.inl (Fit.noPylong (n := 9000) ?m2 (by decide))); (case m1 => omega); (case m2 => first | assumption | k_extra "fit"))))
  k_dflt cell_enter
  k_steps
  · exact con_retX hret rshN_walk (by assumption) (by assumption) (by intro p hp; simp [hp])
theorem con_sq (w : World) (mean) (mg mb) (n z : Int) (tn tz : Tok) (hn : 0 < n) (hz : 0 < z) (hf : Fit 9000 (z + n)) : CI w mean mg mb 1 21 [.int n tn, .int z tz] (IsSq n) := by
  unfold CI ConI
  k_fill
  intros; rename_i hret
  refine wpAny_call ?_
  w_on
  k_with_none
  k_with "call builtin:divmod" => (((with_reducible show wpAny _ _ (call (Value.builtin _) [Value.int _ _, Value.int _ _]) _ _ _); refine divmod_N (by assumption) (by assumption) (by omega) ?_ (Or.inl (Fit.noPylong (by assumption) (by decide))); intro _ _ _))
  k_with "binaryOp FloorDiv int int" => (((with_reducible show wpAny _ _ (binaryOp Operator.FloorDiv (Value.int _ _) (Value.int _ _)) _ _ _); (refine floordiv_int ?m1 ?_ (Or.inl (Fit.noPylong (n := 9000) ?m2 (by decide))); (case m1 => omega); (case m2 => first | assumption | k_extra "fit"))))
  k_dflt cell_enter
  k_with "exec While Compare cons nil" => k_while (fun _ b a => 0 < a ∧ a ≤ z + n ∧ (b = 0 ∨ (0 < b ∧ a = sqStep n b))) (fun _ b a => sqMeas n b a) "b" "a"
  k_with "state" => exact sq_turn hn hz (by assumption) (by assumption)
  k_with "measure" => exact sq_meas hn (by assumption) (by assumption)
  k_with "fit" => exact Fit.of_le hf (by omega) (by omega)
  k_steps
  · exact con_retI hret (sq_out (by assumption) (by assumption) (by assumption)) (by assumption) (by assumption) (by intro p hp; simp [hp])

end
section
theorem con_dig (w : World) (mean) (mg mb) (p : Int) (tp : Tok) (h0 : 0 ≤ p) (h1 : p ≤ 46) : CX w mean mg mb 1 82 [.int p tp] (l10 p.toNat) := by
  unfold CX ConX
  k_fill
  intros; rename_i hret
  refine wpAny_call ?_
  refine method_call (top_meth (by assumption) (by assumption) rfl) ?_
  w_on
  k_with_none
  k_with "call type:int" => (((with_reducible show wpAny _ _ (call (Value.type "int") [Value.str _ _]) _ _ _); refine KIN.call_text (dig_text (by assumption) (by assumption)) (Nat.le_trans (dig_len (by assumption) (by assumption)) (by decide)) ?_))
  k_dflt cell_enter
  k_steps
  · exact con_retX hret rfl (by assumption) (by assumption) (by intro p hp; simp [hp])

end
section
theorem con_ilog (w : World) (mean) (mg mb) (p : Nat) (x M : Int) (tx tM : Tok) (hM : M = 10 ^ p) (hp : p ≤ 1000) (hM0 : 0 < M) (hMf : Fit 1500 (20 * M))
   (hR : RedOk x M) : CI w mean mg mb 2 43 [.int x tx, .int M tM] (IsIlog p x M) := by
  unfold CI ConI
  k_fill
  intros; rename_i hret
  refine wpAny_call ?_
  w_on
  k_with_none
  k_with "binaryOp FloorDiv int int" => (((with_reducible show wpAny _ _ (binaryOp Operator.FloorDiv (Value.int _ _) (Value.int _ _)) _ _ _); (refine floordiv_int ?m1 ?_ (Or.inl (Fit.noPylong (n := 9000) ?m2 (by decide))); (case m1 => first | omega | k_extra "ne"); (case m2 => first | assumption | k_extra "fit"))))
  k_with "binaryOp Mult int int" => (((with_reducible show wpAny _ _ (binaryOp Operator.Mult (Value.int _ _) (Value.int _ _)) _ _ _); (with_reducible refine mul_int ?_ ?m1); (case m1 => k_extra "mul")))
  k_with "binaryOp LShift int int" => (((with_reducible show wpAny _ _ (binaryOp Operator.LShift (Value.int _ _) (Value.int _ _)) _ _ _); (with_reducible refine lshift_int ?m1 ?m2 ?_); (case m1 => omega); (case m2 => k_extra "shl")))
  k_with "call type:str" => (((with_reducible show wpAny _ _ (call (Value.type "str") [Value.int _ _]) _ _ _); (refine P.str_of_int ?m1 ?_); (case m1 => k_extra "str")))
  k_with "call builtin:len" => (((with_reducible show wpAny _ _ (call (Value.builtin "len") [Value.str _ _]) _ _ _); (refine P.len_str ?m1 ?_); (case m1 => k_extra "len")))
  k_with "call ref" => ((k_here; k_dflt (first
      | (refine' con_div _ _ _ _ _ _ _ _ ?p1 ?p2 _ _ _ _ _ _ _ _ _ _ _ _ _ _ _ _ _ _ ?k1 ?k2 ?k3 ?k4 ?k5 ?kK ?kd ?ku ?_; (case p1 => first | omega | k_extra "pos"); (case p2 => first | assumption | k_extra "fit"); (case k1 => k_asm); (case k2 => k_asm); (case k3 => k_asm); (case k4 => k_asm); (case k5 => k_asm); (case kK => first | exact rfl | assumption); (case kd => ktr_room); (case ku => ktr_units); intro t9 h9 tk9 F9 N9; (try dsimp only); (try k_fold))
      | (refine' con_rsh _ _ _ _ _ _ _ _ ?p1 ?p2 _ _ _ _ _ _ _ _ _ _ _ _ _ _ _ _ _ _ ?k1 ?k2 ?k3 ?k4 ?k5 ?kK ?kd ?ku ?_; (case p1 => omega); (case p2 => omega); (case k1 => k_asm); (case k2 => k_asm); (case k3 => k_asm); (case k4 => k_asm); (case k5 => k_asm); (case kK => first | exact rfl | assumption); (case kd => ktr_room); (case ku => ktr_units); intro t9 h9 tk9 F9 N9; (try dsimp only); (try k_fold))
      | (refine' con_sq _ _ _ _ _ _ _ _ ?p1 ?p2 ?p3 _ _ _ _ _ _ _ _ _ _ _ _ _ _ _ _ _ _ ?k1 ?k2 ?k3 ?k4 ?k5 ?kK ?kd ?ku ?_; (case p1 => first | omega | k_extra "pos"); (case p2 => first | omega | k_extra "pos"); (case p3 => first | assumption | k_extra "fit"); (case k1 => k_asm); (case k2 => k_asm); (case k3 => k_asm); (case k4 => k_asm); (case k5 => k_asm); (case kK => first | exact rfl | assumption); (case kd => ktr_room); (case ku => ktr_units); intro r9 t9 h9 tk9 P9 F9 N9; (try dsimp only); (try k_fold)))))
  k_with "exec While" => (k_extra "my while")
  k_with "execs cons" => (((try dsimp only); with_reducible refine tk_drop ?_; intro tk9))
  k_with "storeName" => (((try dsimp only); with_reducible refine st_drop ?_; intro tt9))
  k_dflt ((refine' code_def ?k1 ?k2 ?k3 ?k4 ?k5 ?kA ?kF ?kK ?k6 ?k7 ?k8 ?k9 ?kB ?_ ?c2 ?c3 ?c4 ?c5; (case kA => exact rfl); (case kF => exact rfl); (case kK => assumption); (case k1 => k_asm); (case k2 => k_asm); (case k3 => k_asm); (case k4 => k_asm); (case k5 => k_asm); (case k6 => k_is); (case k7 => k_is); (case k8 => ktr_room); (case k9 => first | exact BindsTo.of_eq rfl | exact binds_K (by k_in) rfl (by k_is) rfl rfl rfl); (case c5 => decide); (case kB => exact locs rfl); (case c2 => exact rfl); (case c3 => exact rfl); (case c4 => exact rfl); k_whole; intro g' L' h' FG' F' N' B' X' T'; (try dsimp only); (try k_lift B'); (try k_fold)))
  k_with "my while" => k_while (fun _ y R => 0 ≤ R ∧ R ≤ 14 ∧ -(10 * M) ≤ y ∧ y ≤ 10 * M ∧ 0 < M + divN y (2 ^ R.toNat) ∧ RedTo x M R.toNat y) (fun _ y R => (20 - R).toNat) "y" "R"
  k_with "fit0" => first | assumption | exact Fit.of_le hMf (by omega) (by omega) | (with_reducible refine' Fit.sq ?fa ?fb; (case fb => assumption); (case fa => k_extra "fit0")) | (with_reducible refine' Fit.divN ?fa ?fb; (case fb => exact Int.pow_pos (by decide)); (case fa => k_extra "fit0")) | (with_reducible refine' Fit.add ?fa ?fb; (case fa => k_extra "fit0"); (case fb => k_extra "fit0")) | (with_reducible refine' Fit.mul ?fa ?fb; (case fa => k_extra "fit0"); (case fb => k_extra "fit0")) | (with_reducible refine' Fit.abs ?fa; (case fa => k_extra "fit0")) | exact Fit.small (by omega) (by omega)
  k_with "fit" => first | exact Fit.mono (T_fit hM hp) (by decide) | (refine' Fit.mono ?fx ?fy; (case fx => k_extra "fit0"); (case fy => decide))
  k_with "mul" => (refine' Fit.mulOk ?a ?b ?c; (case a => k_extra "fit0"); (case b => k_extra "fit0"); (case c => decide))
  k_with "shl" => (refine' Fit.shl ?a ?b ?c; (case a => k_extra "fit0"); (case b => omega); (case c => decide))
  k_with "str" => exact Fit.log2 (n := 1500) (Fit.of_le hMf (by omega) (by omega)) (by decide) (by decide)
  k_with "len" => exact Fit.len (n := 1500) (Fit.of_le hMf (by omega) (by omega)) (by decide) (by decide)
  k_with "pos" => first | exact T_pos hM | exact Int.mul_pos hM0 (by assumption) | exact Int.add_pos hM0 (IsSq.pos (by assumption))
  k_with "pyIter ref" => k_state_given ["yshift", "w!"] (fun ys w0 pre w => w = horn M ys w0 pre ∧ -(2 * M + 2) ≤ w ∧ w ≤ 2 * M + 2 ∧ -M ≤ 2 * ys ∧ 2 * ys ≤ M) "w"
  k_with "state" => first | exact hs_start hM0 (T_pos hM) (Int.not_le.mp (mt (cond1 (by omega) (by omega)).mpr (by assumption))) | exact hs_start hM0 (T_pos hM) (Int.not_le.mp (mt (cond2 (by omega)).mpr (by assumption))) |  exact il_start hR | exact il_turn hR (by omega) (by assumption) ((cond1 (by omega) (by omega)).mp (by assumption)) (by assumption) | exact hs_turn hM0 (by omega) (by assumption) (by assumption) (by assumption) (by assumption) (by assumption) | exact il_turn hR (by omega) (by assumption) ((cond2 (by omega)).mp (by assumption)) (by assumption)
  have hT0 := T_pos hM
  have hT1 := T_hi hM hp
  k_steps
  · exact con_retI hret (il_end hM (by assumption) (Int.not_le.mp (mt (cond1 (by omega) (by omega)).mpr (by assumption))) (by assumption)) (by assumption) (by assumption) (by intro p hp; simp [hp])
  · exact con_retI hret (il_end hM (by assumption) (Int.not_le.mp (mt (cond2 (by omega)).mpr (by assumption))) (by assumption)) (by assumption) (by assumption) (by intro p hp; simp [hp])

end
section
theorem con_iexp (w : World) (mean) (mg mb) (p : Nat) (x M : Int) (tx tM : Tok) (hM : M = 10 ^ p) (hp : p ≤ 1000) (hM0 : 0 < M) (hMf : Fit 1500 (20 * M))
   (hx : 0 ≤ x) (hx2 : x ≤ 4 * M) (hR : IeOk p x M) : CI w mean mg mb 2 90 [.int x tx, .int M tM] (IsIexp p x M) := by
  unfold CI ConI
  k_fill
  intros; rename_i hret
  refine wpAny_call ?_
  w_on
  k_with_none
  k_with "binaryOp FloorDiv int int" => (((with_reducible show wpAny _ _ (binaryOp Operator.FloorDiv (Value.int _ _) (Value.int _ _)) _ _ _); (refine floordiv_int ?m1 ?_ (Or.inl (Fit.noPylong (n := 9000) ?m2 (by decide))); (case m1 => first | omega | k_extra "ne"); (case m2 => first | assumption | k_extra "fit"))))
  k_with "binaryOp Mult int int" => (((with_reducible show wpAny _ _ (binaryOp Operator.Mult (Value.int _ _) (Value.int _ _)) _ _ _); (with_reducible refine mul_int ?_ ?m1); (case m1 => k_extra "mul")))
  k_with "binaryOp LShift int int" => (((with_reducible show wpAny _ _ (binaryOp Operator.LShift (Value.int _ _) (Value.int _ _)) _ _ _); (with_reducible refine lshift_int ?m1 ?m2 ?_); (case m1 => omega); (case m2 => k_extra "shl")))
  k_with "call type:str" => (((with_reducible show wpAny _ _ (call (Value.type "str") [Value.int _ _]) _ _ _); (refine P.str_of_int ?m1 ?_); (case m1 => k_extra "str")))
  k_with "call builtin:len" => (((with_reducible show wpAny _ _ (call (Value.builtin "len") [Value.str _ _]) _ _ _); (refine P.len_str ?m1 ?_); (case m1 => k_extra "len")))
  k_with "call ref" => ((k_here; k_dflt (first
      | (refine' con_div _ _ _ _ _ _ _ _ ?p1 ?p2 _ _ _ _ _ _ _ _ _ _ _ _ _ _ _ _ _ _ ?k1 ?k2 ?k3 ?k4 ?k5 ?kK ?kd ?ku ?_; (case p1 => first | omega | k_extra "pos"); (case p2 => first | assumption | k_extra "fit"); (case k1 => k_asm); (case k2 => k_asm); (case k3 => k_asm); (case k4 => k_asm); (case k5 => k_asm); (case kK => first | exact rfl | assumption); (case kd => ktr_room); (case ku => ktr_units); intro t9 h9 tk9 F9 N9; (try dsimp only); (try k_fold))
      | (refine' con_rsh _ _ _ _ _ _ _ _ ?p1 ?p2 _ _ _ _ _ _ _ _ _ _ _ _ _ _ _ _ _ _ ?k1 ?k2 ?k3 ?k4 ?k5 ?kK ?kd ?ku ?_; (case p1 => omega); (case p2 => omega); (case k1 => k_asm); (case k2 => k_asm); (case k3 => k_asm); (case k4 => k_asm); (case k5 => k_asm); (case kK => first | exact rfl | assumption); (case kd => ktr_room); (case ku => ktr_units); intro t9 h9 tk9 F9 N9; (try dsimp only); (try k_fold))
      | (refine' con_sq _ _ _ _ _ _ _ _ ?p1 ?p2 ?p3 _ _ _ _ _ _ _ _ _ _ _ _ _ _ _ _ _ _ ?k1 ?k2 ?k3 ?k4 ?k5 ?kK ?kd ?ku ?_; (case p1 => first | omega | k_extra "pos"); (case p2 => first | omega | k_extra "pos"); (case p3 => first | assumption | k_extra "fit"); (case k1 => k_asm); (case k2 => k_asm); (case k3 => k_asm); (case k4 => k_asm); (case k5 => k_asm); (case kK => first | exact rfl | assumption); (case kd => ktr_room); (case ku => ktr_units); intro r9 t9 h9 tk9 P9 F9 N9; (try dsimp only); (try k_fold)))))
  k_with "binaryOp Pow int int" => (((with_reducible show wpAny _ _ (binaryOp Operator.Pow (Value.int _ _) (Value.int _ _)) _ _ _); (with_reducible refine pow_int ?m1 ?m2 ?_); (case m1 => omega); (case m2 => k_extra "pow")))
  k_with "storeName" => (k_extra "norm")
  k_with "execs cons" => (((try dsimp only); with_reducible refine tk_drop ?_; intro tk9))
  k_with "storeName" => (((try dsimp only); with_reducible refine st_drop ?_; intro tt9))
  k_dflt ((refine' code_def ?k1 ?k2 ?k3 ?k4 ?k5 ?kA ?kF ?kK ?k6 ?k7 ?k8 ?k9 ?kB ?_ ?c2 ?c3 ?c4 ?c5; (case kA => exact rfl); (case kF => exact rfl); (case kK => assumption); (case k1 => k_asm); (case k2 => k_asm); (case k3 => k_asm); (case k4 => k_asm); (case k5 => k_asm); (case k6 => k_is); (case k7 => k_is); (case k8 => ktr_room); (case k9 => first | exact BindsTo.of_eq rfl | exact binds_K (by k_in) rfl (by k_is) rfl rfl rfl); (case c5 => decide); (case kB => exact locs rfl); (case c2 => exact rfl); (case c3 => exact rfl); (case c4 => exact rfl); k_whole; intro g' L' h' FG' F' N' B' X' T'; (try dsimp only); (try k_lift B'); (try k_fold)))
  have hTw := T_walk hM
  have hT0 := tays_pos p
  have hT1 : tays p ≤ 1000 := by unfold tays; omega
  generalize hT : tays p = T at hTw hT0 hT1
  obtain ⟨R, hRe⟩ : ∃ R : Nat, Builtin.Int.intBits ((x * 2 ^ Int.toNat 8).fdiv M) = R := ⟨_, rfl⟩
  have hRR := ie_R hM0 hx hRe
  have hok := hR R hRR.1 hRR.2
  have hRf := Fit.two R (by omega)
  have hok2 := hok.2
  have hMf2 : Fit 1520 (20000 * M) := by
    have := Fit.mul (Fit.small (x := 1000) (by decide) (by decide)) hMf
    rw [show 1000 * (20 * M) = 20000 * M by omega] at this
    exact Fit.mono this (by decide)
  unfold ieY at hok2
  rw [hT] at hok2
  k_with "norm" => first | (with_reducible refine st_T hTw ?_) | (with_reducible refine st_R hRe ?_) | (with_reducible refine st_Ms ?_)
  k_with "fit0" => first | (with_reducible assumption) | exact Fit.of_le hMf (by omega) (by omega) | exact Fit.of_le hMf2 (by omega) (by omega) | (with_reducible refine' Fit.divN ?fa ?fb; (case fb => exact Int.pow_pos (by decide)); (case fa => k_extra "fit0")) | (with_reducible refine' Fit.add ?fa ?fb; (case fa => k_extra "fit0"); (case fb => k_extra "fit0")) | (with_reducible refine' Fit.mul ?fa ?fb; (case fa => k_extra "fit0"); (case fb => k_extra "fit0")) | exact Fit.small (by omega) (by omega) | exact Fit.two _ (by omega)
  k_with "fit" => (refine' Fit.mono ?fx ?fy; (case fx => k_extra "fit0"); (case fy => decide))
  have hMR : Fit 1700 (M * 2 ^ R) := Fit.mul (Fit.of_le hMf (by omega) (by omega)) hRf
  k_with "mul" => first | exact Fit.mulOk (n := 1500) (m := 3201) (Fit.of_le hMf (by omega) (by omega)) (Fit.add (n := 1700) (m := 1500) hMR (Fit.of_le hMf (by omega) (by omega))) (by decide) | (refine' Fit.mulOk ?a ?b ?c; (case a => k_extra "fit0"); (case b => k_extra "fit0"); (case c => decide))
  k_with "shl" => (refine' Fit.shl ?a ?b ?c; (case a => k_extra "fit0"); (case b => omega); (case c => decide))
  k_with "str" => exact Fit.log2 (n := 1500) (Fit.of_le hMf (by omega) (by omega)) (by decide) (by decide)
  k_with "len" => exact Fit.len (n := 1500) (Fit.of_le hMf (by omega) (by omega)) (by decide) (by decide)
  k_with "pos" => first | exact Int.mul_pos hM0 (Int.pow_pos (by decide)) | exact Int.mul_pos (Int.mul_pos hM0 (Int.pow_pos (by decide))) (by omega)
  k_with "pyIter ref" => (k_of "i" => k_state (fun pre y => y = ieT (M * 2 ^ R) x T pre.length ∧ 0 ≤ y ∧ y ≤ 2 * x) "y")
  k_with "pyIter ref" => (k_of "k" => k_state (fun pre y => y = ieD M (ieT (M * 2 ^ R) x T (T - 1)) R pre.length ∧ 0 ≤ y ∧ y ≤ 20000 * M) "y")
  have hMs : 256 * x < M * 2 ^ R := hRR.1
  have hst0 := ieT_start (Ms := M * 2 ^ R) hx hT0
  have hdst : ieT (M * 2 ^ R) x T (T - 1) = ieD M (ieT (M * 2 ^ R) x T (T - 1)) R ([] : List Int).length := rfl
  k_with "state" => first | exact hst0 | exact ieT_turn hx hMs (by omega) (by assumption) (by assumption) (by assumption) (by assumption) | exact ie_dstart (by assumption) (by assumption) (by assumption) hx2 | exact ieD_turn (by omega) (by assumption) (by assumption) hok2
  k_steps
  · exact con_retI hret (ie_end hT hMs hRR.2 (by assumption)) (by assumption) (by assumption) (by intro p hp; simp [hp])

end
section
theorem con_dlogG (w : World) (mean) (mg mb) (n ex : Nat) (c e p f : Int) (tc te tp : Tok) (hn : p + 2 = n) (hn0 : 0 < n) (hn1 : n ≤ 46) (hc : Fit 1100 c) (hc0 : 0 ≤ c) (hff : dlF c e = f) (hf1 : -10000000000000000 ≤ f) (hf2 : f ≤ 10000000000000000) (hex : nd (f.natAbs : Int) - 1 = ex) (hx : n + ex ≤ 46)
    (hk1 : -200 ≤ e + n - f) (hk2 : e + n - f ≤ 200) (hR : RedOk (dlC c (e + n - f)) (10 ^ n)) : CI w mean mg mb 3 50 [.int c tc, .int e te, .int p tp] (IsDlog n c e) := by
  unfold CI ConI
  k_fill
  intros; rename_i hret
  refine wpAny_call ?_
  w_on
  k_with_none
  k_with "binaryOp FloorDiv int int" => (((with_reducible show wpAny _ _ (binaryOp Operator.FloorDiv (Value.int _ _) (Value.int _ _)) _ _ _); (refine floordiv_int ?m1 ?_ (Or.inl (Fit.noPylong (n := 9000) ?m2 (by decide))); (case m1 => first | omega | k_extra "ne"); (case m2 => first | assumption | k_extra "fit"))))
  k_with "binaryOp Mult int int" => (((with_reducible show wpAny _ _ (binaryOp Operator.Mult (Value.int _ _) (Value.int _ _)) _ _ _); (with_reducible refine mul_int ?_ ?m1); (case m1 => k_extra "mul")))
  k_with "binaryOp LShift int int" => (((with_reducible show wpAny _ _ (binaryOp Operator.LShift (Value.int _ _) (Value.int _ _)) _ _ _); (with_reducible refine lshift_int ?m1 ?m2 ?_); (case m1 => omega); (case m2 => k_extra "shl")))
  k_with "call type:str" => (((with_reducible show wpAny _ _ (call (Value.type "str") [Value.int _ _]) _ _ _); (refine P.str_of_int ?m1 ?_); (case m1 => k_extra "str")))
  k_with "call builtin:len" => (((with_reducible show wpAny _ _ (call (Value.builtin "len") [Value.str _ _]) _ _ _); (refine P.len_str ?m1 ?_); (case m1 => k_extra "len")))
  k_with "call ref" => ((k_here; k_dflt (first
      | (refine' con_div _ _ _ _ _ _ _ _ ?p1 ?p2 _ _ _ _ _ _ _ _ _ _ _ _ _ _ _ _ _ _ ?k1 ?k2 ?k3 ?k4 ?k5 ?kK ?kd ?ku ?_; (case p1 => first | omega | k_extra "pos"); (case p2 => first | assumption | k_extra "fit"); (case k1 => k_asm); (case k2 => k_asm); (case k3 => k_asm); (case k4 => k_asm); (case k5 => k_asm); (case kK => first | exact rfl | assumption); (case kd => ktr_room); (case ku => ktr_units); intro t9 h9 tk9 F9 N9; (try dsimp only); (try k_fold))
      | (refine' con_rsh _ _ _ _ _ _ _ _ ?p1 ?p2 _ _ _ _ _ _ _ _ _ _ _ _ _ _ _ _ _ _ ?k1 ?k2 ?k3 ?k4 ?k5 ?kK ?kd ?ku ?_; (case p1 => omega); (case p2 => omega); (case k1 => k_asm); (case k2 => k_asm); (case k3 => k_asm); (case k4 => k_asm); (case k5 => k_asm); (case kK => first | exact rfl | assumption); (case kd => ktr_room); (case ku => ktr_units); intro t9 h9 tk9 F9 N9; (try dsimp only); (try k_fold))
      | (refine' con_sq _ _ _ _ _ _ _ _ ?p1 ?p2 ?p3 _ _ _ _ _ _ _ _ _ _ _ _ _ _ _ _ _ _ ?k1 ?k2 ?k3 ?k4 ?k5 ?kK ?kd ?ku ?_; (case p1 => first | omega | k_extra "pos"); (case p2 => first | omega | k_extra "pos"); (case p3 => first | assumption | k_extra "fit"); (case k1 => k_asm); (case k2 => k_asm); (case k3 => k_asm); (case k4 => k_asm); (case k5 => k_asm); (case kK => first | exact rfl | assumption); (case kd => ktr_room); (case ku => ktr_units); intro r9 t9 h9 tk9 P9 F9 N9; (try dsimp only); (try k_fold)))))
  k_with "call ref" => ((k_here; k_dflt (
       (refine' con_ilog _ _ _ _ _ _ _ _ _ ?p1 ?p2 ?p3 ?p4 ?p5 _ _ _ _ _ _ _ _ _ _ _ _ _ _ _ _ _ _ ?k1 ?k2 ?k3 ?k4 ?k5 ?kK ?kd ?ku ?_; (case p1 => k_extra "ilM"); (case p2 => k_extra "ilp"); (case p3 => k_extra "il0"); (case p4 => k_extra "ilF"); (case p5 => k_extra "ilR"); (case k1 => k_asm); (case k2 => k_asm); (case k3 => k_asm); (case k4 => k_asm); (case k5 => k_asm); (case kK => first | exact rfl | assumption); (case kd => ktr_room); (case ku => ktr_units); intro r9 t9 h9 tk9 P9 F9 N9; (try dsimp only); (try k_fold)))))
  k_with "call ref" => ((k_here; k_dflt (
       (refine' con_dig _ _ _ _ _ _ ?p1 ?p2 _ _ _ _ _ _ _ _ _ _ _ _ _ _ _ _ _ _ ?k1 ?k2 ?k3 ?k4 ?k5 ?kK ?kd ?ku ?_; (case p1 => omega); (case p2 => omega); (case k1 => k_asm); (case k2 => k_asm); (case k3 => k_asm); (case k4 => k_asm); (case k5 => k_asm); (case kK => first | exact rfl | assumption); (case kd => ktr_room); (case ku => ktr_units); intro t9 h9 tk9 F9 N9; (try dsimp only); (try k_fold)))))
  k_with "callWith ref" => ((k_here; k_dflt (refine' callWith_T ?k1 ?k2 ?k3 ?_; (case k1 => k_asm); (case k2 => rfl); (case k3 => k_is); k_whole)))
  k_with "storeName" => (k_extra "norm")
  k_with "inplaceOp Mult int int" => (((with_reducible show wpAny _ _ (inplaceOp Operator.Mult (Value.int _ _) (Value.int _ _)) _ _ _); (with_reducible refine imul_int ?_ ?m1); (case m1 => k_extra "mul")))
  k_with "binaryOp Pow int int" => (((with_reducible show wpAny _ _ (binaryOp Operator.Pow (Value.int _ _) (Value.int _ _)) _ _ _); (with_reducible refine pow_int ?m1 ?m2 ?_); (case m1 => omega); (case m2 => k_extra "pow")))
  k_with "execs cons" => (((try dsimp only); with_reducible refine tk_drop ?_; intro tk9))
  k_with "storeName" => (((try dsimp only); with_reducible refine st_drop ?_; intro tt9))
  k_dflt cell_enter
  obtain ⟨K, hK⟩ : ∃ K, e + (n : Int) - f = K := ⟨_, rfl⟩
  rw [hK] at hR hk1 hk2
  have hf : (e + ((Str.ofString (toString c)).length : Int) - if decide (1 ≤ e + ((Str.ofString (toString c)).length : Int)) = true then 1 else 0) = f := hff
  have hxx : (((Str.ofString (toString (if f < 0 then -f else f))).length : Int)) - 1 = (ex : Int) := by
    rw [abs_if]
    have h1 := nd_pos (f.natAbs : Int) (by omega)
    have : ((Str.ofString (toString (f.natAbs : Int))).length) = nd (f.natAbs : Int) := rfl
    rw [this]; omega
  have hFf : Fit 60 f := by unfold Fit; omega
  k_with "norm" => first | (with_reducible refine st_eq (x := Str.ofString "p") hn ?_) | (with_reducible refine st_eq (x := Str.ofString "f") hf ?_) | (with_reducible refine st_eq (x := Str.ofString "k") hK ?_) | (with_reducible refine st_eq (x := Str.ofString "extra") hxx ?_)
  k_with "str" => first | exact Fit.log2 hc (by decide) (by decide) | exact Fit.log2 (Fit.abs hFf) (by decide) (by decide)
  k_with "len" => first | exact Fit.len hc (by decide) (by decide) | exact Fit.len (Fit.abs hFf) (by decide) (by decide)
  k_with "mul" => first | exact Fit.mulOk hc (Fit.ten rfl (by omega)) (by decide) | exact Fit.mulOk hFf (l10_fit _) (by decide)
  k_with "pow" => exact Fit.powOk (Fit.small (by decide) (by decide)) ⟨by omega, by omega⟩ (by decide)
  k_with "pos" => exact Int.pow_pos (by decide)
  k_with "fit" => first | exact Fit.mono (Fit.ten rfl (by omega)) (by decide) | exact Fit.mono (Fit.small (by decide) (by decide)) (by decide)
  k_with "ilM" => exact ten_nat n
  k_with "ilp" => omega
  k_with "il0" => exact Int.pow_pos (by decide)
  k_with "ilF" => exact ten_fit (by omega)
  k_with "ilR" => first | exact ilR1 (by omega) hR | exact ilR2 (by omega) hR
  k_steps
  · exact con_retI hret (dl_fin hff hK (dl_k1 (by omega) (by assumption)) (dl_t1 (by omega) hex) rfl) (by assumption) (by assumption) (by intro p hp; simp [hp])
  · exact con_retI hret (dl_fin hff hK (dl_k1 (by omega) (by assumption)) (dl_t0 (by omega)) rfl) (by assumption) (by assumption) (by intro p hp; simp [hp])
  · exact con_retI hret (dl_fin hff hK (dl_k2 (by omega) (by assumption)) (dl_t1 (by omega) hex) rfl) (by assumption) (by assumption) (by intro p hp; simp [hp])
  · exact con_retI hret (dl_fin hff hK (dl_k2 (by omega) (by assumption)) (dl_t0 (by omega)) rfl) (by assumption) (by assumption) (by intro p hp; simp [hp])
theorem con_dlog0 (w : World) (mean) (mg mb) (n : Int) (ex : Nat) (c e p f : Int) (tc te tp : Tok) (hn : p + 2 = n) (hn0 : n ≤ 0) (hc : Fit 1100 c) (hc0 : 0 ≤ c) (hff : dlF c e = f) (hf1 : -10000000000000000 ≤ f) (hf2 : f ≤ 10000000000000000) (hf0 : f ≠ 0) (hex : nd (f.natAbs : Int) - 1 = ex) (hx0 : 0 ≤ n + ex) (hx : n + ex ≤ 46) (hex2 : ex ≤ 60) :
    CI w mean mg mb 3 50 [.int c tc, .int e te, .int p tp] (fun r => r = divN (dlTz n f + 0) 100) := by
  unfold CI ConI
  k_fill
  intros; rename_i hret
  refine wpAny_call ?_
  w_on
  k_with_none
  k_with "binaryOp FloorDiv int int" => (((with_reducible show wpAny _ _ (binaryOp Operator.FloorDiv (Value.int _ _) (Value.int _ _)) _ _ _); (refine floordiv_int ?m1 ?_ (Or.inl (Fit.noPylong (n := 9000) ?m2 (by decide))); (case m1 => first | omega | k_extra "ne"); (case m2 => first | assumption | k_extra "fit"))))
  k_with "binaryOp Mult int int" => (((with_reducible show wpAny _ _ (binaryOp Operator.Mult (Value.int _ _) (Value.int _ _)) _ _ _); (with_reducible refine mul_int ?_ ?m1); (case m1 => k_extra "mul")))
  k_with "binaryOp LShift int int" => (((with_reducible show wpAny _ _ (binaryOp Operator.LShift (Value.int _ _) (Value.int _ _)) _ _ _); (with_reducible refine lshift_int ?m1 ?m2 ?_); (case m1 => omega); (case m2 => k_extra "shl")))
  k_with "call type:str" => (((with_reducible show wpAny _ _ (call (Value.type "str") [Value.int _ _]) _ _ _); (refine P.str_of_int ?m1 ?_); (case m1 => k_extra "str")))
  k_with "call builtin:len" => (((with_reducible show wpAny _ _ (call (Value.builtin "len") [Value.str _ _]) _ _ _); (refine P.len_str ?m1 ?_); (case m1 => k_extra "len")))
  k_with "call ref" => ((k_here; k_dflt (first
      | (refine' con_div _ _ _ _ _ _ _ _ ?p1 ?p2 _ _ _ _ _ _ _ _ _ _ _ _ _ _ _ _ _ _ ?k1 ?k2 ?k3 ?k4 ?k5 ?kK ?kd ?ku ?_; (case p1 => first | omega | k_extra "pos"); (case p2 => first | assumption | k_extra "fit"); (case k1 => k_asm); (case k2 => k_asm); (case k3 => k_asm); (case k4 => k_asm); (case k5 => k_asm); (case kK => first | exact rfl | assumption); (case kd => ktr_room); (case ku => ktr_units); intro t9 h9 tk9 F9 N9; (try dsimp only); (try k_fold))
      | (refine' con_rsh _ _ _ _ _ _ _ _ ?p1 ?p2 _ _ _ _ _ _ _ _ _ _ _ _ _ _ _ _ _ _ ?k1 ?k2 ?k3 ?k4 ?k5 ?kK ?kd ?ku ?_; (case p1 => omega); (case p2 => omega); (case k1 => k_asm); (case k2 => k_asm); (case k3 => k_asm); (case k4 => k_asm); (case k5 => k_asm); (case kK => first | exact rfl | assumption); (case kd => ktr_room); (case ku => ktr_units); intro t9 h9 tk9 F9 N9; (try dsimp only); (try k_fold))
      | (refine' con_sq _ _ _ _ _ _ _ _ ?p1 ?p2 ?p3 _ _ _ _ _ _ _ _ _ _ _ _ _ _ _ _ _ _ ?k1 ?k2 ?k3 ?k4 ?k5 ?kK ?kd ?ku ?_; (case p1 => first | omega | k_extra "pos"); (case p2 => first | omega | k_extra "pos"); (case p3 => first | assumption | k_extra "fit"); (case k1 => k_asm); (case k2 => k_asm); (case k3 => k_asm); (case k4 => k_asm); (case k5 => k_asm); (case kK => first | exact rfl | assumption); (case kd => ktr_room); (case ku => ktr_units); intro r9 t9 h9 tk9 P9 F9 N9; (try dsimp only); (try k_fold)))))
  k_with "call ref" => ((k_here; k_dflt (
       (refine' con_ilog _ _ _ _ _ _ _ _ _ ?p1 ?p2 ?p3 ?p4 ?p5 _ _ _ _ _ _ _ _ _ _ _ _ _ _ _ _ _ _ ?k1 ?k2 ?k3 ?k4 ?k5 ?kK ?kd ?ku ?_; (case p1 => k_extra "ilM"); (case p2 => k_extra "ilp"); (case p3 => k_extra "il0"); (case p4 => k_extra "ilF"); (case p5 => k_extra "ilR"); (case k1 => k_asm); (case k2 => k_asm); (case k3 => k_asm); (case k4 => k_asm); (case k5 => k_asm); (case kK => first | exact rfl | assumption); (case kd => ktr_room); (case ku => ktr_units); intro r9 t9 h9 tk9 P9 F9 N9; (try dsimp only); (try k_fold)))))
  k_with "call ref" => ((k_here; k_dflt (
       (refine' con_dig _ _ _ _ _ _ ?p1 ?p2 _ _ _ _ _ _ _ _ _ _ _ _ _ _ _ _ _ _ ?k1 ?k2 ?k3 ?k4 ?k5 ?kK ?kd ?ku ?_; (case p1 => omega); (case p2 => omega); (case k1 => k_asm); (case k2 => k_asm); (case k3 => k_asm); (case k4 => k_asm); (case k5 => k_asm); (case kK => first | exact rfl | assumption); (case kd => ktr_room); (case ku => ktr_units); intro t9 h9 tk9 F9 N9; (try dsimp only); (try k_fold)))))
  k_with "callWith ref" => ((k_here; k_dflt (refine' callWith_T ?k1 ?k2 ?k3 ?_; (case k1 => k_asm); (case k2 => rfl); (case k3 => k_is); k_whole)))
  k_with "storeName" => (k_extra "norm")
  k_with "inplaceOp Mult int int" => (((with_reducible show wpAny _ _ (inplaceOp Operator.Mult (Value.int _ _) (Value.int _ _)) _ _ _); (with_reducible refine imul_int ?_ ?m1); (case m1 => k_extra "mul")))
  k_with "binaryOp Pow int int" => (((with_reducible show wpAny _ _ (binaryOp Operator.Pow (Value.int _ _) (Value.int _ _)) _ _ _); (with_reducible refine pow_int ?m1 ?m2 ?_); (case m1 => omega); (case m2 => k_extra "pow")))
  k_with "execs cons" => (((try dsimp only); with_reducible refine tk_drop ?_; intro tk9))
  k_with "storeName" => (((try dsimp only); with_reducible refine st_drop ?_; intro tt9))
  k_dflt cell_enter
  have hf : (e + ((Str.ofString (toString c)).length : Int) - if decide (1 ≤ e + ((Str.ofString (toString c)).length : Int)) = true then 1 else 0) = f := hff
  have hxx : (((Str.ofString (toString (if f < 0 then -f else f))).length : Int)) - 1 = (ex : Int) := by
    rw [abs_if]
    have h1 := nd_pos (f.natAbs : Int) (by omega)
    have : ((Str.ofString (toString (f.natAbs : Int))).length) = nd (f.natAbs : Int) := rfl
    rw [this]; omega
  have hFf : Fit 60 f := by unfold Fit; omega
  k_with "norm" => first | (with_reducible refine st_eq (x := Str.ofString "p") hn ?_) | (with_reducible refine st_eq (x := Str.ofString "f") hf ?_) | (with_reducible refine st_eq (x := Str.ofString "extra") hxx ?_)
  k_with "str" => first | exact Fit.log2 hc (by decide) (by decide) | exact Fit.log2 (Fit.abs hFf) (by decide) (by decide)
  k_with "len" => first | exact Fit.len hc (by decide) (by decide) | exact Fit.len (Fit.abs hFf) (by decide) (by decide)
  k_with "mul" => first | exact Fit.mulOk hFf (l10_fit _) (by decide)
  k_with "pow" => exact Fit.powOk (Fit.small (by decide) (by decide)) ⟨by omega, by omega⟩ (by decide)
  k_with "pos" => exact Int.pow_pos (by decide)
  k_with "fit" => first | exact Fit.mono (Fit.ten rfl (by omega)) (by decide) | exact Fit.mono (Fit.small (by decide) (by decide)) (by decide)
  k_steps
  all_goals first | exact con_retI hret (dl_fin0 hex) (by assumption) (by assumption) (by intro p hp; simp [hp]) | (exfalso; omega)
theorem con_dlZ (w : World) (mean) (mg mb) (n : Int) (c e p : Int) (tc te tp : Tok) (hn : p + 2 = n) (h : DlOkZ n c e) : CI w mean mg mb 3 50 [.int c tc, .int e te, .int p tp] (IsDlogZ n c e) := by
  obtain ⟨h46, hF, hc, hf1, hf2, hx, hnc, h0⟩ := h
  have hnd := nd_pos c (by omega)
  rcases Int.lt_or_le 0 n with g | g
  · obtain ⟨m, rfl⟩ : ∃ m : Nat, n = m := ⟨n.toNat, by omega⟩
    refine conI_mono' (fun r hr => Or.inl ⟨g, ?_⟩) (con_dlogG w mean mg mb m (nd ((dlF c e).natAbs : Int) - 1) c e p (dlF c e) tc te tp hn (by omega) (by omega) hF (by omega) rfl hf1 hf2 rfl (by omega) (dlF_k hc hnc (by omega)).1 (dlF_k hc hnc (by omega)).2.1 (dlF_k hc hnc (by omega)).2.2)
    exact hr
  · exact conI_mono' (fun r hr => Or.inr ⟨g, hr⟩) (con_dlog0 w mean mg mb n (nd ((dlF c e).natAbs : Int) - 1) c e p (dlF c e) tc te tp hn g hF (by omega) rfl hf1 hf2 (h0 g).1 rfl (h0 g).2 hx (ex_60 hf1 hf2))

end
section
abbrev CP (w : World) (mean : ExcName → Option Value) (mg mb : Str → Option Value) (d : Nat) (f : Addr) (vs : List Value) (P : Int → Int → Prop) : Prop :=
  ConP PySem.Challenge.rw_dm0271_10.row.prog w (lay.heap_1 w.params) lay.view_1 (looseW lay.view_1 [Str.ofString "_nbits", Str.ofString "_ilog", Str.ofString "_log10_digits", Str.ofString "_iexp"]) mean mg mb d f vs P
theorem con_dexp (w : World) (mean) (mg mb) (n : Nat) (c e p : Int) (tc te tp : Tok) (hn : p + 2 = n) (hn0 : 3 ≤ n) (hc : Fit 1100 c) (hq : n + dxE c e ≤ 46) (he1 : -200 ≤ e) (he2 : e ≤ 200)
    (hI : IeOk n (dxR n c e) (10 ^ n)) (hr0 : 0 ≤ dxR n c e) (hr1 : dxR n c e ≤ 4 * 10 ^ n) (hl : ∀ q, q ≤ 46 → 0 < l10 q) : CP w mean mg mb 3 97 [.int c tc, .int e te, .int p tp] (IsDexp n c e) := by
  unfold CP ConP
  k_fill
  intros; rename_i hret
  refine wpAny_call ?_
  w_on
  k_with_none
  k_with "binaryOp FloorDiv int int" => (((with_reducible show wpAny _ _ (binaryOp Operator.FloorDiv (Value.int _ _) (Value.int _ _)) _ _ _); (refine floordiv_int ?m1 ?_ (Or.inl (Fit.noPylong (n := 9000) ?m2 (by decide))); (case m1 => first | omega | k_extra "ne"); (case m2 => first | assumption | k_extra "fit"))))
  k_with "binaryOp Mult int int" => (((with_reducible show wpAny _ _ (binaryOp Operator.Mult (Value.int _ _) (Value.int _ _)) _ _ _); (with_reducible refine mul_int ?_ ?m1); (case m1 => k_extra "mul")))
  k_with "binaryOp LShift int int" => (((with_reducible show wpAny _ _ (binaryOp Operator.LShift (Value.int _ _) (Value.int _ _)) _ _ _); (with_reducible refine lshift_int ?m1 ?m2 ?_); (case m1 => omega); (case m2 => k_extra "shl")))
  k_with "call type:str" => (((with_reducible show wpAny _ _ (call (Value.type "str") [Value.int _ _]) _ _ _); (refine P.str_of_int ?m1 ?_); (case m1 => k_extra "str")))
  k_with "call builtin:len" => (((with_reducible show wpAny _ _ (call (Value.builtin "len") [Value.str _ _]) _ _ _); (refine P.len_str ?m1 ?_); (case m1 => k_extra "len")))
  k_with "call ref" => ((k_here; k_dflt (first
      | (refine' con_div _ _ _ _ _ _ _ _ ?p1 ?p2 _ _ _ _ _ _ _ _ _ _ _ _ _ _ _ _ _ _ ?k1 ?k2 ?k3 ?k4 ?k5 ?kK ?kd ?ku ?_; (case p1 => first | omega | k_extra "pos"); (case p2 => first | assumption | k_extra "fit"); (case k1 => k_asm); (case k2 => k_asm); (case k3 => k_asm); (case k4 => k_asm); (case k5 => k_asm); (case kK => first | exact rfl | assumption); (case kd => ktr_room); (case ku => ktr_units); intro t9 h9 tk9 F9 N9; (try dsimp only); (try k_fold))
      | (refine' con_rsh _ _ _ _ _ _ _ _ ?p1 ?p2 _ _ _ _ _ _ _ _ _ _ _ _ _ _ _ _ _ _ ?k1 ?k2 ?k3 ?k4 ?k5 ?kK ?kd ?ku ?_; (case p1 => omega); (case p2 => omega); (case k1 => k_asm); (case k2 => k_asm); (case k3 => k_asm); (case k4 => k_asm); (case k5 => k_asm); (case kK => first | exact rfl | assumption); (case kd => ktr_room); (case ku => ktr_units); intro t9 h9 tk9 F9 N9; (try dsimp only); (try k_fold))
      | (refine' con_sq _ _ _ _ _ _ _ _ ?p1 ?p2 ?p3 _ _ _ _ _ _ _ _ _ _ _ _ _ _ _ _ _ _ ?k1 ?k2 ?k3 ?k4 ?k5 ?kK ?kd ?ku ?_; (case p1 => first | omega | k_extra "pos"); (case p2 => first | omega | k_extra "pos"); (case p3 => first | assumption | k_extra "fit"); (case k1 => k_asm); (case k2 => k_asm); (case k3 => k_asm); (case k4 => k_asm); (case k5 => k_asm); (case kK => first | exact rfl | assumption); (case kd => ktr_room); (case ku => ktr_units); intro r9 t9 h9 tk9 P9 F9 N9; (try dsimp only); (try k_fold)))))
  k_with "binaryOp Pow int int" => (((with_reducible show wpAny _ _ (binaryOp Operator.Pow (Value.int _ _) (Value.int _ _)) _ _ _); (with_reducible refine pow_int ?m1 ?m2 ?_); (case m1 => omega); (case m2 => k_extra "pow")))
  k_with "call ref" => ((k_here; k_dflt (
       (refine' con_dig _ _ _ _ _ _ ?p1 ?p2 _ _ _ _ _ _ _ _ _ _ _ _ _ _ _ _ _ _ ?k1 ?k2 ?k3 ?k4 ?k5 ?kK ?kd ?ku ?_; (case p1 => omega); (case p2 => omega); (case k1 => k_asm); (case k2 => k_asm); (case k3 => k_asm); (case k4 => k_asm); (case k5 => k_asm); (case kK => first | exact rfl | assumption); (case kd => ktr_room); (case ku => ktr_units); intro t9 h9 tk9 F9 N9; (try dsimp only); (try k_fold)))))
  k_with "callWith ref" => ((k_here; k_dflt (refine' callWith_T ?k1 ?k2 ?k3 ?_; (case k1 => k_asm); (case k2 => rfl); (case k3 => k_is); k_whole)))
  k_with "call ref" => ((k_here; k_dflt (
       (refine' con_iexp _ _ _ _ _ _ _ _ _ ?p1 ?p2 ?p3 ?p4 ?p5 ?p6 ?p7 _ _ _ _ _ _ _ _ _ _ _ _ _ _ _ _ _ _ ?k1 ?k2 ?k3 ?k4 ?k5 ?kK ?kd ?ku ?_; (case p1 => k_extra "ie1"); (case p2 => k_extra "ie2"); (case p3 => k_extra "ie3"); (case p4 => k_extra "ie4"); (case p5 => k_extra "ie5"); (case p6 => k_extra "ie6"); (case p7 => k_extra "ie7"); (case k1 => k_asm); (case k2 => k_asm); (case k3 => k_asm); (case k4 => k_asm); (case k5 => k_asm); (case kK => first | exact rfl | assumption); (case kd => ktr_room); (case ku => ktr_units); intro r9 t9 h9 tk9 P9 F9 N9; (try dsimp only); (try k_fold)))))
  k_with "storeName" => (k_extra "norm")
  k_with "binaryOp Pow int int" => (((with_reducible show wpAny _ _ (binaryOp Operator.Pow (Value.int _ _) (Value.int _ _)) _ _ _); (with_reducible refine pow_int ?m1 ?m2 ?_); (case m1 => omega); (case m2 => k_extra "pow")))
  k_with "call builtin:divmod" => (((with_reducible show wpAny _ _ (call (Value.builtin _) [Value.int _ _, Value.int _ _]) _ _ _); refine divmod_N (by assumption) (by assumption) ?m1 ?_ (Or.inl (Fit.noPylong (n := 9000) ?m2 (by decide))); (case m1 => k_extra "ne"); (case m2 => k_extra "fit"); intro _ _ _))
  k_with "execs cons" => (((try dsimp only); with_reducible refine tk_drop ?_; intro tk9))
  k_with "storeName" => (((try dsimp only); with_reducible refine st_drop ?_; intro tt9))
  k_dflt cell_enter
  have hlq := hl (n + dxE c e) hq
  obtain ⟨S, hS⟩ : ∃ S, e + ((n + dxE c e : Nat) : Int) = S := ⟨_, rfl⟩
  k_with "norm" => first | (with_reducible refine st_eq (x := Str.ofString "p") hn ?_) | (with_reducible refine st_eq (x := Str.ofString "extra") dx_e ?_) | (with_reducible refine st_eq (x := Str.ofString "q") dx_q ?_) | (with_reducible refine st_eq (x := Str.ofString "shift") hS ?_) | (with_reducible refine st_eq (x := Str.ofString "cshift") (dx_c1 hS (by omega)) ?_) | (with_reducible refine st_eq (x := Str.ofString "cshift") (dx_c2 hS (by omega)) ?_) | (with_reducible refine st_eq (x := Str.ofString "rem") (dx_r hlq) ?_)
  k_with "ie1" => exact ten_nat n
  k_with "ie2" => omega
  k_with "ie3" => exact Int.pow_pos (by decide)
  k_with "ie4" => exact ten_fit (by omega)
  k_with "ie5" => exact hr0
  k_with "ie6" => exact hr1
  k_with "ie7" => exact hI
  k_with "str" => first | exact Fit.log2 hc (by decide) (by decide)
  k_with "len" => first | exact Fit.len hc (by decide) (by decide)
  k_with "mul" => first | exact Fit.mulOk hc (Fit.ten rfl (by omega)) (by decide)
  k_with "pow" => exact Fit.powOk (Fit.small (by decide) (by decide)) ⟨by omega, by omega⟩ (by decide)
  k_with "pos" => exact Int.pow_pos (by decide)
  k_with "fit" => first | exact Fit.mono (Fit.ten rfl (by omega)) (by decide) | exact Fit.mono (Fit.small (by decide) (by decide)) (by decide) | exact Fit.mono (l10_fit _) (by decide)
  k_with "ne" => first | exact Int.ne_of_gt (hl _ (by omega)) | exact Int.ne_of_gt (Int.pow_pos (by decide))
  k_steps
  · exact con_retP hret (dx_end hlq (by assumption)) (by assumption) (by assumption) (by k_memK) (allLt_to (by first | assumption | exact And.right (by assumption))) (by intro p hp; simp [hp])
  · exact con_retP hret (dx_end hlq (by assumption)) (by assumption) (by assumption) (by k_memK) (allLt_to (by first | assumption | exact And.right (by assumption))) (by intro p hp; simp [hp])

end
section
theorem con_dx8 (w : World) (mean) (mg mb) (n : Nat) (c e p : Int) (tc te tp : Tok) (hn : p + 2 = n) (hn0 : 3 ≤ n) (hc : Fit 1100 c) (hq : n + dxE c e ≤ 46) (he1 : -200 ≤ e) (he2 : e ≤ 200) : CP w mean mg mb 3 97 [.int c tc, .int e te, .int p tp] (IsDexp n c e) :=
  con_dexp w mean mg mb n c e p tc te tp hn hn0 hc hq he1 he2 (dxr_ie hn0 hq) (dxr_ok hn0 hq).1 (dxr_4 hn0 hq) l10_pos

end
section
theorem con_dpower (w : World) (mean) (mg mb) (D : Int → Prop) (pn : Nat) (xc xe yc ye p : Int) (tc te ty tz tp : Tok) (hp : p = pn) (hP : 1 ≤ pn) (hP2 : pn ≤ 100) (hy : Fit 1100 yc)
    (hD : ∀ t1 t2 t3, CI w mean mg mb 3 50 [.int xc t1, .int xe t2, .int (p + (((nd (yc.natAbs : Int) : Nat) : Int) + ye) + 1) t3] D) (hl : ∀ l, D l → Fit 1100 l)
    (hz : ∀ l, D l → divN (l * yc) (10 ^ nd (yc.natAbs : Int)) ≠ 0 ∧ Fit 1100 (divN (l * yc) (10 ^ nd (yc.natAbs : Int))) ∧ pn + 3 + dxE (divN (l * yc) (10 ^ nd (yc.natAbs : Int))) (-((pn : Int) + 1)) ≤ 46) (hnd : nd (yc.natAbs : Int) ≤ 300) :
    CP w mean mg mb 4 104 [.int xc tc, .int xe te, .int yc ty, .int ye tz, .int p tp] (IsDpow D pn yc) := by
  subst hp
  unfold CP ConP
  k_fill
  intros; rename_i hret
  obtain ⟨j, hj⟩ : ∃ j, nd (yc.natAbs : Int) = j := ⟨_, rfl⟩
  have hj1 : 1 ≤ j := by rw [← hj]; exact nd_pos _ (by omega)
  rw [hj] at hD hz hnd
  obtain ⟨B, hB⟩ : ∃ B, (j : Int) + ye = B := ⟨_, rfl⟩
  rw [hB] at hD
  have hS : ye - B = -(j : Int) := by omega
  have hBb : ((Str.ofString (toString (if yc < 0 then -yc else yc))).length : Int) + ye = B := dp_b (by rw [hj]; exact hB)
  refine wpAny_call ?_
  w_on
  k_with_none
  k_with "binaryOp FloorDiv int int" => (((with_reducible show wpAny _ _ (binaryOp Operator.FloorDiv (Value.int _ _) (Value.int _ _)) _ _ _); (refine floordiv_int ?m1 ?_ (Or.inl (Fit.noPylong (n := 9000) ?m2 (by decide))); (case m1 => first | omega | k_extra "ne"); (case m2 => first | assumption | k_extra "fit"))))
  k_with "binaryOp Mult int int" => (((with_reducible show wpAny _ _ (binaryOp Operator.Mult (Value.int _ _) (Value.int _ _)) _ _ _); (with_reducible refine mul_int ?_ ?m1); (case m1 => k_extra "mul")))
  k_with "binaryOp LShift int int" => (((with_reducible show wpAny _ _ (binaryOp Operator.LShift (Value.int _ _) (Value.int _ _)) _ _ _); (with_reducible refine lshift_int ?m1 ?m2 ?_); (case m1 => omega); (case m2 => k_extra "shl")))
  k_with "call type:str" => (((with_reducible show wpAny _ _ (call (Value.type "str") [Value.int _ _]) _ _ _); (refine P.str_of_int ?m1 ?_); (case m1 => k_extra "str")))
  k_with "call builtin:len" => (((with_reducible show wpAny _ _ (call (Value.builtin "len") [Value.str _ _]) _ _ _); (refine P.len_str ?m1 ?_); (case m1 => k_extra "len")))
  k_with "call ref" => ((k_here; k_dflt (first
      | (refine' con_div _ _ _ _ _ _ _ _ ?p1 ?p2 _ _ _ _ _ _ _ _ _ _ _ _ _ _ _ _ _ _ ?k1 ?k2 ?k3 ?k4 ?k5 ?kK ?kd ?ku ?_; (case p1 => first | omega | k_extra "pos"); (case p2 => first | assumption | k_extra "fit"); (case k1 => k_asm); (case k2 => k_asm); (case k3 => k_asm); (case k4 => k_asm); (case k5 => k_asm); (case kK => first | exact rfl | assumption); (case kd => ktr_room); (case ku => ktr_units); intro t9 h9 tk9 F9 N9; (try dsimp only); (try k_fold))
      | (refine' con_rsh _ _ _ _ _ _ _ _ ?p1 ?p2 _ _ _ _ _ _ _ _ _ _ _ _ _ _ _ _ _ _ ?k1 ?k2 ?k3 ?k4 ?k5 ?kK ?kd ?ku ?_; (case p1 => omega); (case p2 => omega); (case k1 => k_asm); (case k2 => k_asm); (case k3 => k_asm); (case k4 => k_asm); (case k5 => k_asm); (case kK => first | exact rfl | assumption); (case kd => ktr_room); (case ku => ktr_units); intro t9 h9 tk9 F9 N9; (try dsimp only); (try k_fold))
      | (refine' con_sq _ _ _ _ _ _ _ _ ?p1 ?p2 ?p3 _ _ _ _ _ _ _ _ _ _ _ _ _ _ _ _ _ _ ?k1 ?k2 ?k3 ?k4 ?k5 ?kK ?kd ?ku ?_; (case p1 => first | omega | k_extra "pos"); (case p2 => first | omega | k_extra "pos"); (case p3 => first | assumption | k_extra "fit"); (case k1 => k_asm); (case k2 => k_asm); (case k3 => k_asm); (case k4 => k_asm); (case k5 => k_asm); (case kK => first | exact rfl | assumption); (case kd => ktr_room); (case ku => ktr_units); intro r9 t9 h9 tk9 P9 F9 N9; (try dsimp only); (try k_fold)))))
  k_with "call ref" => ((k_here; k_dflt (first
       | (k_extra "calldl")
       | (refine' con_dx8 _ _ _ _ _ _ _ _ _ _ _ ?p1 ?p2 ?p3 ?p4 ?p5 ?p6 _ _ _ _ _ _ _ _ _ _ _ _ _ _ _ _ _ _ ?k1 ?k2 ?k3 ?k4 ?k5 ?kK ?kd ?ku ?_; (case p1 => k_extra "dx1"); (case p2 => k_extra "dx2"); (case p3 => k_extra "dx3"); (case p4 => k_extra "dx4"); (case p5 => k_extra "dx5"); (case p6 => k_extra "dx6"); (case k1 => k_asm); (case k2 => k_asm); (case k3 => k_asm); (case k4 => k_asm); (case k5 => k_asm); (case kK => first | exact rfl | assumption); (case kd => ktr_room); (case ku => ktr_units); intro ra9 rb9 ta9 tb9 D9 h9 tk9 P9 F9 N9 l1; (try dsimp only); (try k_lt l1); (try k_fold)))))
  k_with "storeName" => (k_extra "norm")
  k_with "execs cons" => (((try dsimp only); with_reducible refine tk_drop ?_; intro tk9))
  k_with "storeName" => (((try dsimp only); with_reducible refine st_drop ?_; intro tt9))
  k_dflt cell_enter
  k_with "norm" => first | (with_reducible refine st_eq (x := Str.ofString "b") hBb ?_) | (with_reducible refine st_eq (x := Str.ofString "shift") hS ?_) | (with_reducible refine st_pc hz (by assumption) ?_; intro Z9 hZ9 hF9 hQ9 eZ9)
  k_with "calldl" => (refine' (hD _ _ _) _ _ _ _ _ _ _ _ _ _ _ _ _ _ _ _ _ _ ?k1 ?k2 ?k3 ?k4 ?k5 ?kK ?kd ?ku ?_; (case k1 => k_asm); (case k2 => k_asm); (case k3 => k_asm); (case k4 => k_asm); (case k5 => k_asm); (case kK => first | exact rfl | assumption); (case kd => ktr_room); (case ku => ktr_units); intro r9 t9 h9 tk9 P9 F9 N9; (try dsimp only); (try k_fold))
  k_with "dx1" => (show (pn : Int) + 1 + 2 = ((pn + 3 : Nat) : Int); omega)
  k_with "dx2" => omega
  k_with "dx3" => assumption
  k_with "dx4" => assumption
  k_with "dx5" => omega
  k_with "dx6" => omega
  k_with "str" => exact Fit.log2 (Fit.abs hy) (by decide) (by decide)
  k_with "len" => exact Fit.len (Fit.abs hy) (by decide) (by decide)
  k_with "mul" => exact Fit.mulOk (hl _ (by assumption)) hy (by decide)
  k_with "pow" => exact Fit.powOk (Fit.small (by decide) (by decide)) ⟨by omega, by omega⟩ (by decide)
  k_with "powe" => omega
  k_with "pos" => exact Int.pow_pos (by decide)
  k_with "fit" => first | exact Fit.mono (Fit.ten rfl (by omega)) (by decide) | exact Fit.mono (Fit.small (by decide) (by decide)) (by decide)
  k_steps
  all_goals first
    | (exact absurd (show _ = (0 : Int) by assumption) (by assumption))
    | (exact con_retP hret (dp_end (by assumption) hj (by assumption) (by assumption)) (by assumption) (by assumption) (by k_memK) (allLt_to (by first | assumption | exact And.right (by assumption))) (by intro p hp; simp [hp]))

end
section
theorem con_dpow10 (w : World) (mean) (mg mb) (xc xe zc s D yc bc be : Int) (P k j A : Nat) (tc te ty tz tp : Tok) (h : B10 xc xe P zc s k D yc j A) (hb : IsDexp (P + 5 + A) zc (s + 1 - k) bc be) :
    CP w mean mg mb 4 104 [.int bc tc, .int be te, .int yc ty, .int (-(P : Int) - 3 - s) tz, .int (P : Int) tp] (Ans10 xc xe P) := by
  have hP := xc_P h.1
  have hP2 := h.1.2.2.2.2.2.2.1
  have hj := j_rng h
  refine conP_mono9 (fun c e hd => ans10 h hb hd) (con_dpower w mean mg mb (IsDlogZ ((j : Int) - s) bc be) P _ _ _ _ _ tc te ty tz tp rfl hP.1 (by omega) h.fit ?_ (fun l hl => l_fit10 h hb hl) (dpre10 h hb) (by rw [h.2.2.2.1]; omega))
  intro t1 t2 t3
  exact con_dlZ w mean mg mb _ _ _ _ t1 t2 t3 (b_n10 h) (ok10 h hb)

end
section
abbrev CV (w : World) (mean : ExcName → Option Value) (mg mb : Str → Option Value) (d : Nat) (f : Addr) (vs : List Value) (v : Value) : Prop :=
  ConV PySem.Challenge.rw_dm0271_10.row.prog w (lay.heap_1 w.params) lay.view_1 (looseW lay.view_1 [Str.ofString "_nbits", Str.ofString "_ilog", Str.ofString "_log10_digits", Str.ofString "_iexp"]) mean mg mb d f vs v
theorem con_ncb (w : World) (mean) (mg mb) (xc xe zc s p ze : Int) (pn k : Nat) (t1 t2 t3 t4 t5 : Tok) (a : A10 xc xe pn zc s k) (e1 : p = pn) (e2 : ze = s + 1 - k) :
    CV w mean mg mb 5 125 [.int xc t1, .int xe t2, .int p t3, .int zc t4, .int ze t5] (.bool true) := by
  subst e1 e2
  unfold CV ConV
  k_fill
  intros; rename_i hret
  refine wpAny_call ?_
  w_on
  k_with_none
  k_with "binaryOp FloorDiv int int" => (((with_reducible show wpAny _ _ (binaryOp Operator.FloorDiv (Value.int _ _) (Value.int _ _)) _ _ _); (refine floordiv_int ?m1 ?_ (Or.inl (Fit.noPylong (n := 9000) ?m2 (by decide))); (case m1 => first | omega | k_extra "ne"); (case m2 => first | assumption | k_extra "fit"))))
  k_with "binaryOp Mult int int" => (((with_reducible show wpAny _ _ (binaryOp Operator.Mult (Value.int _ _) (Value.int _ _)) _ _ _); (with_reducible refine mul_int ?_ ?m1); (case m1 => k_extra "mul")))
  k_with "binaryOp LShift int int" => (((with_reducible show wpAny _ _ (binaryOp Operator.LShift (Value.int _ _) (Value.int _ _)) _ _ _); (with_reducible refine lshift_int ?m1 ?m2 ?_); (case m1 => omega); (case m2 => k_extra "shl")))
  k_with "call type:str" => (((with_reducible show wpAny _ _ (call (Value.type "str") [Value.int _ _]) _ _ _); (refine P.str_of_int ?m1 ?_); (case m1 => k_extra "str")))
  k_with "call builtin:len" => (((with_reducible show wpAny _ _ (call (Value.builtin "len") [Value.str _ _]) _ _ _); (refine P.len_str ?m1 ?_); (case m1 => k_extra "len")))
  k_with "call ref" => ((k_here; k_dflt (first
      | (refine' con_div _ _ _ _ _ _ _ _ ?p1 ?p2 _ _ _ _ _ _ _ _ _ _ _ _ _ _ _ _ _ _ ?k1 ?k2 ?k3 ?k4 ?k5 ?kK ?kd ?ku ?_; (case p1 => first | omega | k_extra "pos"); (case p2 => first | assumption | k_extra "fit"); (case k1 => k_asm); (case k2 => k_asm); (case k3 => k_asm); (case k4 => k_asm); (case k5 => k_asm); (case kK => first | exact rfl | assumption); (case kd => ktr_room); (case ku => ktr_units); intro t9 h9 tk9 F9 N9; (try dsimp only); (try k_fold))
      | (refine' con_rsh _ _ _ _ _ _ _ _ ?p1 ?p2 _ _ _ _ _ _ _ _ _ _ _ _ _ _ _ _ _ _ ?k1 ?k2 ?k3 ?k4 ?k5 ?kK ?kd ?ku ?_; (case p1 => omega); (case p2 => omega); (case k1 => k_asm); (case k2 => k_asm); (case k3 => k_asm); (case k4 => k_asm); (case k5 => k_asm); (case kK => first | exact rfl | assumption); (case kd => ktr_room); (case ku => ktr_units); intro t9 h9 tk9 F9 N9; (try dsimp only); (try k_fold))
      | (refine' con_sq _ _ _ _ _ _ _ _ ?p1 ?p2 ?p3 _ _ _ _ _ _ _ _ _ _ _ _ _ _ _ _ _ _ ?k1 ?k2 ?k3 ?k4 ?k5 ?kK ?kd ?ku ?_; (case p1 => first | omega | k_extra "pos"); (case p2 => first | omega | k_extra "pos"); (case p3 => first | assumption | k_extra "fit"); (case k1 => k_asm); (case k2 => k_asm); (case k3 => k_asm); (case k4 => k_asm); (case k5 => k_asm); (case kK => first | exact rfl | assumption); (case kd => ktr_room); (case ku => ktr_units); intro r9 t9 h9 tk9 P9 F9 N9; (try dsimp only); (try k_fold)))))
  k_with "execs cons" => ((dsimp only))
  k_with "execs nil" => ((dsimp only))
  k_with "call ref" => ((k_here; k_dflt (first
       | (refine' con_dlZ _ _ _ _ _ _ _ _ _ _ _ ?p1 ?p2 _ _ _ _ _ _ _ _ _ _ _ _ _ _ _ _ _ _ ?k1 ?k2 ?k3 ?k4 ?k5 ?kK ?kd ?ku ?_; (case p2 => assumption); (case p1 => omega); (case k1 => k_asm); (case k2 => k_asm); (case k3 => k_asm); (case k4 => k_asm); (case k5 => k_asm); (case kK => first | exact rfl | assumption); (case kd => ktr_room); (case ku => ktr_units); intro r9 t9 h9 tk9 P9 F9 N9; (try dsimp only); (try k_fold))
       | (refine' con_dx8 _ _ _ _ _ _ _ _ _ _ _ ?p1 ?p2 ?p3 ?p4 ?p5 ?p6 _ _ _ _ _ _ _ _ _ _ _ _ _ _ _ _ _ _ ?k1 ?k2 ?k3 ?k4 ?k5 ?kK ?kd ?ku ?_; (case p1 => k_extra "dx1"); (case p2 => k_extra "dx2"); (case p3 => k_extra "dx3"); (case p4 => k_extra "dx4"); (case p5 => k_extra "dx5"); (case p6 => k_extra "dx6"); (case k1 => k_asm); (case k2 => k_asm); (case k3 => k_asm); (case k4 => k_asm); (case k5 => k_asm); (case kK => first | exact rfl | assumption); (case kd => ktr_room); (case ku => ktr_units); intro ra9 rb9 ta9 tb9 D9 h9 tk9 P9 F9 N9 l1; (try dsimp only); (try k_lt l1); (try k_fold))
       | (refine' con_dpow10 _ _ _ _ _ _ _ _ _ _ _ _ _ _ _ _ _ _ _ _ _ ?p1 ?p2 _ _ _ _ _ _ _ _ _ _ _ _ _ _ _ _ _ _ ?k1 ?k2 ?k3 ?k4 ?k5 ?kK ?kd ?ku ?_; (case p1 => assumption); (case p2 => assumption); (case k1 => k_asm); (case k2 => k_asm); (case k3 => k_asm); (case k4 => k_asm); (case k5 => k_asm); (case kK => first | exact rfl | assumption); (case kd => ktr_room); (case ku => ktr_units); intro ra9 rb9 ta9 tb9 D9 h9 tk9 P9 F9 N9 l1; (k_extra "ans"); (try dsimp only); (try k_lt l1); (try k_fold)))))
  k_with "storeName" => (k_extra "norm")
  k_with "binaryOp Pow int int" => (((with_reducible show wpAny _ _ (binaryOp Operator.Pow (Value.int _ _) (Value.int _ _)) _ _ _); (with_reducible refine pow_int ?m1 ?m2 ?_); (case m1 => first | omega | k_extra "powe"); (case m2 => k_extra "pow")))
  k_with "binaryOp FloorDiv int int" => (((with_reducible show wpAny _ _ (binaryOp Operator.FloorDiv (Value.int _ _) (Value.int _ _)) _ _ _); (refine floordiv_int ?m1 ?_ (Or.inl (Fit.noPylong (n := 9000) ?m2 (by decide))); (case m1 => first | assumption | omega); (case m2 => first | assumption | k_extra "fit"))))
  k_with "execs cons" => (((try dsimp only); with_reducible refine tk_drop ?_; intro tk9))
  k_with "storeName" => (((try dsimp only); with_reducible refine st_drop ?_; intro tt9))
  k_dflt cell_enter
  have hDok := D_ok a
  have hz0 : zc ≠ 0 := a.2.2.2.2.2.2.2.1
  have hP1 := (xc_P a).1
  have hP17 : pn ≤ 17 := a.2.2.2.2.2.2.1
  have hk13 : k ≤ 13 := a.2.2.2.2.2.2.2.2.2.1
  have hs1 : -12 ≤ s := a.2.2.2.2.2.2.2.2.2.2.1
  have hs2 : s ≤ 12 := a.2.2.2.2.2.2.2.2.2.2.2
  have fz : Fit 1100 zc := fit_z10 a
  have fx : Fit 1100 xc := hDok.2.1
  have hk := hk10 a
  have hye : -(pn : Int) - 2 - (k : Int) - (s + 1 - (k : Int)) = -(pn : Int) - 3 - s := by omega
  k_with "norm" => first | (with_reducible refine st_eq (x := Str.ofString "k") hk ?_) | (with_reducible refine st_yc a (by assumption) ?_; intro Y9 j9 A9 hB9 hF9 hq9 hA9) | (with_reducible refine st_eq (x := Str.ofString "ye") hye ?_) | (with_reducible refine st_ahead (by assumption) ?_)
  k_with "dx1" => exact dx1_10
  k_with "dx2" => omega
  k_with "dx3" => assumption
  k_with "dx4" => assumption
  k_with "dx5" => omega
  k_with "dx6" => omega
  k_with "ans" => ((rename Ans10 _ _ _ _ _ => H9); (obtain ⟨q1, q2, q3, q4, q5, q6⟩ := H9))
  k_with "str" => first | exact Fit.log2 (Fit.abs fz) (by decide) (by decide) | exact Fit.log2 (Fit.abs (show Fit 1100 _ by assumption)) (by decide) (by decide)
  k_with "len" => first | exact Fit.len (Fit.abs fz) (by decide) (by decide) | exact Fit.len (Fit.abs (show Fit 1100 _ by assumption)) (by decide) (by decide)
  k_with "fit" => first | exact Fit.mono fz (by decide) | exact Fit.mono (Fit.ten rfl (by omega)) (by decide) | exact Fit.mono (Fit.small (by omega) (by omega)) (by decide)
  k_with "pow" => first | exact Fit.powOk (Fit.small (by decide) (by decide)) ⟨by omega, by omega⟩ (by decide)
  k_with "mul" => first | exact Fit.mulOk (n := 1100) (D_fit10 a (by assumption)) (Fit.ten rfl (by omega)) (by decide) | exact Fit.mulOk fx (Fit.ten rfl (by omega)) (by decide)
  k_with "pos" => exact Int.pow_pos (by decide)
  k_steps
  all_goals first
    | (exfalso; omega)
    | (exact con_retV hret (congrArg Value.bool (decide_eq_true (by assumption))) (by assumption) (by assumption) (by intro p hp; simp [hp]))
    | (exact absurd (by assumption) (by assumption))

end
section
local macro_rules | `(tactic| walk_at "exec If") => `(tactic| (k_here; (fail_if_success (with_reducible show wpAny _ _ _ (SQ _ _ _ _ _ _ _ _) _ _)); k_extra "ifj"))
local macro_rules | `(tactic| walk_at "SQ") => `(tactic| (refine' SQ.intro (by assumption) (by assumption) (by intro p hp; simp [hp]) ?hx ?hc ?hz; (case hx => with_unfolding_all rfl); (case hc => k_extra "sjc"); (case hz => (intro z z1 z3; (repeat (first | (refine fr_ne8 z1 ?_) | (refine fr_skip z3 ?_ ?hs; (case hs => first | rfl | decide)))); exact rfl))))
local macro_rules | `(tactic| w_fin) => `(tactic| exact rfl)

theorem t10k : PySem.Challenge.rw_dm0271_10.Holds := hd (by rfl) (by rfl) (by rfl) (by
  w_strict (
  k_with_none
  k_with "binaryOp FloorDiv int int" => (((with_reducible show wpAny _ _ (binaryOp Operator.FloorDiv (Value.int _ _) (Value.int _ _)) _ _ _); (refine floordiv_int ?m1 ?_ (Or.inl (Fit.noPylong (n := 9000) ?m2 (by decide))); (case m1 => first | omega | k_extra "ne"); (case m2 => first | assumption | k_extra "fit"))))
  k_with "binaryOp Mult int int" => (((with_reducible show wpAny _ _ (binaryOp Operator.Mult (Value.int _ _) (Value.int _ _)) _ _ _); (with_reducible refine mul_int ?_ ?m1); (case m1 => k_extra "mul")))
  k_with "binaryOp LShift int int" => (((with_reducible show wpAny _ _ (binaryOp Operator.LShift (Value.int _ _) (Value.int _ _)) _ _ _); (with_reducible refine lshift_int ?m1 ?m2 ?_); (case m1 => omega); (case m2 => k_extra "shl")))
  k_with "call type:str" => (((with_reducible show wpAny _ _ (call (Value.type "str") [Value.int _ _]) _ _ _); (refine P.str_of_int ?m1 ?_); (case m1 => k_extra "str")))
  k_with "call builtin:len" => (((with_reducible show wpAny _ _ (call (Value.builtin "len") [Value.str _ _]) _ _ _); (refine P.len_str ?m1 ?_); (case m1 => k_extra "len")))
  k_with "call ref" => ((k_here; k_dflt (first
      | (refine' con_div _ _ _ _ _ _ _ _ ?p1 ?p2 _ _ _ _ _ _ _ _ _ _ _ _ _ _ _ _ _ _ ?k1 ?k2 ?k3 ?k4 ?k5 ?kK ?kd ?ku ?_; (case p1 => first | omega | k_extra "pos"); (case p2 => first | assumption | k_extra "fit"); (case k1 => k_asm); (case k2 => k_asm); (case k3 => k_asm); (case k4 => k_asm); (case k5 => k_asm); (case kK => first | exact rfl | assumption); (case kd => ktr_room); (case ku => ktr_units); intro t9 h9 tk9 F9 N9; (try dsimp only); (try k_fold))
      | (refine' con_rsh _ _ _ _ _ _ _ _ ?p1 ?p2 _ _ _ _ _ _ _ _ _ _ _ _ _ _ _ _ _ _ ?k1 ?k2 ?k3 ?k4 ?k5 ?kK ?kd ?ku ?_; (case p1 => omega); (case p2 => omega); (case k1 => k_asm); (case k2 => k_asm); (case k3 => k_asm); (case k4 => k_asm); (case k5 => k_asm); (case kK => first | exact rfl | assumption); (case kd => ktr_room); (case ku => ktr_units); intro t9 h9 tk9 F9 N9; (try dsimp only); (try k_fold))
      | (refine' con_sq _ _ _ _ _ _ _ _ ?p1 ?p2 ?p3 _ _ _ _ _ _ _ _ _ _ _ _ _ _ _ _ _ _ ?k1 ?k2 ?k3 ?k4 ?k5 ?kK ?kd ?ku ?_; (case p1 => first | omega | k_extra "pos"); (case p2 => first | omega | k_extra "pos"); (case p3 => first | assumption | k_extra "fit"); (case k1 => k_asm); (case k2 => k_asm); (case k3 => k_asm); (case k4 => k_asm); (case k5 => k_asm); (case kK => first | exact rfl | assumption); (case kd => ktr_room); (case ku => ktr_units); intro r9 t9 h9 tk9 P9 F9 N9; (try dsimp only); (try k_fold)))))
  k_with "execs cons" => ((dsimp only))
  k_with "execs nil" => ((dsimp only))
  k_with "storeName" => (k_extra "norm")
  k_with "binaryOp Pow int int" => (((with_reducible show wpAny _ _ (binaryOp Operator.Pow (Value.int _ _) (Value.int _ _)) _ _ _); (with_reducible refine pow_int ?m1 ?m2 ?_); (case m1 => first | omega | k_extra "powe"); (case m2 => k_extra "pow")))
  k_with "call ref" => ((k_here; k_dflt (
       (refine' con_ncb _ _ _ _ _ _ _ _ _ _ _ _ _ _ _ _ _ ?p1 ?q1 ?q2 _ _ _ _ _ _ _ _ _ _ _ _ _ _ _ _ _ _ ?k1 ?k2 ?k3 ?k4 ?k5 ?kK ?kd ?ku ?_; (case p1 => assumption); (case q1 => exact rfl); (case q2 => exact rfl); (case k1 => k_asm); (case k2 => k_asm); (case k3 => k_asm); (case k4 => k_asm); (case k5 => k_asm); (case kK => first | exact rfl | assumption); (case kd => ktr_room); (case ku => ktr_units); intro h9 tk9 F9 N9; (try dsimp only); (try k_fold)))))
  k_with "execs cons" => (((try dsimp only); with_reducible refine tk_drop ?_; intro tk9))
  k_with "storeName" => (((try dsimp only); with_reducible refine st_drop ?_; intro tt9))
  k_with "norm" => first | (with_reducible refine sx_xc (by decide) ?_; intro x9 hx19 hx29 hxf9) | (refine sx_xe ?m1 ?m2 ?_; (case m1 => decide); (case m2 => decide); intro e9 he19 he29) | (with_reducible refine sx_p (by omega) (by omega) ?_; intro p9 hp19 hp29) | (with_reducible refine sx_zc (by decide) ?_; intro z9 hz19 hz29 hzf9) | (refine sx_ze ?m1 ?m2 (by assumption) (by assumption) (by omega) (by omega) (by assumption) (by first | assumption | exact ne_up (by omega) (by omega) (by assumption) | exact ne_eq (by assumption) | exact ne_far (by omega)) (by assumption) (by assumption) (by assumption) ?_; (case m1 => decide); (case m2 => decide); intro s9 k9 a19 a29)
  k_with "powe" => omega
  k_with "ifj" => ((rename Fr _ _ _ _ => lF'); (rename News _ _ _ _ => lN'); (refine join_if (Str.ofString "xc") [] (fun B => 2 ≤ B ∧ B ≤ 1000000000002 ∧ Ne10 B e9) lF' lN' ?_ ?_); (all_goals first | (intro B9 t9 u9 h9 tk9 C9 F9 N9; (obtain ⟨c19, c29, c39⟩ := C9); (try clear lF' lN'); (try dsimp only); (try k_fold)) | skip))
  k_with "sjc" => exact ⟨by omega, by omega, by first | exact ne_up (by omega) (by omega) (by assumption) | exact ne_eq (by assumption) | exact ne_far (by omega)⟩
  k_with "fit" => exact Fit.mono (Fit.small (by omega) (by omega)) (by decide)
  k_with "str" => first | exact Fit.log2 (n := 60) (by assumption) (by decide) (by decide) | exact Fit.log2 (n := 60) (by unfold Fit; omega) (by decide) (by decide)
  k_with "len" => first | exact Fit.len (n := 60) (by assumption) (by decide) (by decide) | exact Fit.len (n := 60) (by unfold Fit; omega) (by decide) (by decide)
  k_with "pow" => first | exact Fit.powOk (Fit.small (by decide) (by decide)) ⟨by omega, by omega⟩ (by decide)
  k_go0
  (all_goals try k_fold)
  k_steps))

end
end Mine
end
theorem PySem.Challenge.cw_dm0271_10_holds : PySem.Challenge.rw_dm0271_10.Holds :=
  Mine.t10k
